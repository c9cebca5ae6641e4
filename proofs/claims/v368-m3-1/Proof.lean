import JvmDerived
import JvmDerived.Pilot.@@N@@Statement
import JvmDerived.Pilot.@@N@@Code
set_option linter.unusedVariables false
set_option linter.unusedSimpArgs false
namespace Jvm.Pilot.@@N@@
open Jvm Jvm.ClassFile Sem Op Lib Jvm.Free Jvm.Stand Jvm.LawKit Jvm.RoadKit Bundle Jvm.Pilot.@@N@@.Jvm.D
-- OWN KIT: walks in continuation style over the library's Stand laws (own text, pasted into each Proof.lean)
section OwnKit
variable {p : Program} {l : Launch} {e : Env} {R : Room} {s : State} {m : MethodId} {args : Array Value} {below : List Frame} {meth : Method} {c : Code} {T : State} {locs : List Loc} {cells slots : Nat} {Z : State} {a0 : Array Value} {h : Heap} {own : String} {cd : ByteArray} {maxL : Nat} {ret : Option FieldType} {nm : String} {n0 : Nat} {F : Option Value → Heap → Prop} {kc ks : Nat} {pc : Nat} {ls : Array Slot} {st : List Value}
/-- from the frame g over T the method runs to its end, returns v, leaves a heap, F holds of both; only new cells are written -/
def own_Go (p : Program) (e : Env) (below : List Frame) (s : State) (n0 : Nat) (F : Option Value → Heap → Prop) (kc ks : Nat) (T : State) (g : JFrame) : Prop :=
  ∃ s₂ o, Steps p.tables e below (T.setTop g) s₂ ∧ s₂.status = .running ∧ Ended s₂ below o ∧ ∃ v L, o = .returned v ∧ (F v s₂.heap ∧ Fr n0 L) ∧ FrameEnd s o s₂ L kc ks
theorem own_step {T' : State} {g g' : JFrame} (st : ∀ t, Steps p.tables e below (T'.setTop g') t → Steps p.tables e below (T.setTop g) t) (k : own_Go p e below s n0 F kc ks T' g') : own_Go p e below s n0 F kc ks T g := by
  obtain ⟨s₂, o, h1, h2⟩ := k
  exact ⟨s₂, o, st _ h1, h2⟩
theorem own_Go.mono {F' : Option Value → Heap → Prop} {g : JFrame} (k : own_Go p e below s n0 F kc ks T g) (hf : ∀ v h, F v h → F' v h) : own_Go p e below s n0 F' kc ks T g := by
  obtain ⟨s₂, o, h1, h2, h3, v, L, h4, ⟨h5, h6⟩, h7⟩ := k
  exact ⟨s₂, o, h1, h2, h3, v, L, h4, ⟨hf _ _ h5, h6⟩, h7⟩
/-- what stays the same in one body -/
def own_Cx (p : Program) (s : State) (m : MethodId) (meth : Method) (c : Code) (Z : State) (own : String) (cd : ByteArray) (maxL : Nat) (ret : Option FieldType) (nm : String) : Prop :=
  p.tables.exec = Jvm.exec ∧ c.code = cd ∧ c.maxLocals = maxL ∧ s.vm.findClass own = some m.cls ∧ meth.name = nm ∧ meth.sig.returnType = ret ∧ meth.locks = false ∧ Z.Warmed39 s.vm
/-- where the walk stands: the heap is h, at most so many cells and slots have been made, nothing old was written -/
def own_S (p : Program) (l : Launch) (e : Env) (R : Room) (s : State) (m : MethodId) (args : Array Value) (below : List Frame) (meth : Method) (c : Code) (n0 : Nat) (T : State) (h : Heap) (cells slots : Nat) : Prop :=
  ∃ locs k n, Stand p l e R s m args below meth c T locs k n ∧ T.heap = h ∧ Fr n0 locs ∧ k ≤ cells ∧ n ≤ slots
theorem own_S.mono {c' s' : Nat} (S : own_S p l e R s m args below meth c n0 T h cells slots) (h1 : cells ≤ c') (h2 : slots ≤ s') : own_S p l e R s m args below meth c n0 T h c' s' := by
  obtain ⟨locs, k, n, X, e1, N, q1, q2⟩ := S
  exact ⟨locs, k, n, X, e1, N, Nat.le_trans q1 h1, Nat.le_trans q2 h2⟩
theorem own_hd (C : own_Cx p s m meth c Z own cd maxL ret nm) {i : Instr} {len : Nat} (hd : decode cd pc = .ok (i, len)) : decode c.code pc = .ok (i, len) := by rw [C.2.1]; exact hd
theorem own_hsz (C : own_Cx p s m meth c Z own cd maxL ret nm) (hsz : ls.size = maxL) : ls.size = c.maxLocals := by rw [C.2.2.1]; exact hsz
/-- the k-th table word -/
theorem own_wd {L : List Jvm.Cond} (hw : ∀ d ∈ L, d.before a0 Z = true) (i : Nat) {d : Jvm.Cond} (hi : L[i]? = some d) : d.before a0 Z = true := hw d (List.mem_of_getElem? hi)
/-- one plain instruction -/
def own_st (i : Instr) (len pc : Nat) (ls : Array Slot) (st : List Value) : Option (Nat × Array Slot × List Value) :=
  match i with
  | .iload_n k => match len, ls[k.val]? with | 1, some (.val (.int v)) => some (pc + 1, ls, .int v :: st) | _, _ => none
  | .iload k => match len, ls[k]? with | 2, some (.val (.int v)) => some (pc + 2, ls, .int v :: st) | _, _ => none
  | .lload_n k => match len, ls[k.val]? with | 1, some (.val (.long v)) => some (pc + 1, ls, .long v :: st) | _, _ => none
  | .lload k => match len, ls[k]? with | 2, some (.val (.long v)) => some (pc + 2, ls, .long v :: st) | _, _ => none
  | .dload_n k => match len, ls[k.val]? with | 1, some (.val (.double v)) => some (pc + 1, ls, .double v :: st) | _, _ => none
  | .dload k => match len, ls[k]? with | 2, some (.val (.double v)) => some (pc + 2, ls, .double v :: st) | _, _ => none
  | .aload_n k => match len, ls[k.val]? with | 1, some (.val (.ref v)) => some (pc + 1, ls, .ref v :: st) | 1, some (.val .null) => some (pc + 1, ls, .null :: st) | _, _ => none
  | .aload k => match len, ls[k]? with | 2, some (.val (.ref v)) => some (pc + 2, ls, .ref v :: st) | 2, some (.val .null) => some (pc + 2, ls, .null :: st) | _, _ => none
  | .istore_n k => match len, st with | 1, .int x :: r => (match storeLocals ls k.val (.int x) with | some l' => some (pc + 1, l', r) | none => none) | _, _ => none
  | .istore k => match len, st with | 2, .int x :: r => (match storeLocals ls k (.int x) with | some l' => some (pc + 2, l', r) | none => none) | _, _ => none
  | .lstore_n k => match len, st with | 1, .long x :: r => (match storeLocals ls k.val (.long x) with | some l' => some (pc + 1, l', r) | none => none) | _, _ => none
  | .lstore k => match len, st with | 2, .long x :: r => (match storeLocals ls k (.long x) with | some l' => some (pc + 2, l', r) | none => none) | _, _ => none
  | .dstore_n k => match len, st with | 1, .double x :: r => (match storeLocals ls k.val (.double x) with | some l' => some (pc + 1, l', r) | none => none) | _, _ => none
  | .dstore k => match len, st with | 2, .double x :: r => (match storeLocals ls k (.double x) with | some l' => some (pc + 2, l', r) | none => none) | _, _ => none
  | .astore_n k => match len, st with
    | 1, .ref x :: r => (match storeLocals ls k.val (.ref x) with | some l' => some (pc + 1, l', r) | none => none)
    | 1, .null :: r => (match storeLocals ls k.val .null with | some l' => some (pc + 1, l', r) | none => none)
    | _, _ => none
  | .astore k => match len, st with
    | 2, .ref x :: r => (match storeLocals ls k (.ref x) with | some l' => some (pc + 2, l', r) | none => none)
    | 2, .null :: r => (match storeLocals ls k .null with | some l' => some (pc + 2, l', r) | none => none)
    | _, _ => none
  | .iinc k d => match len, ls[k]? with | 3, some (.val (.int x)) => (match storeLocals ls k (.int (x + Int32.ofInt d)) with | some l' => some (pc + 3, l', st) | none => none) | _, _ => none
  | .iconst i => match len with | 1 => some (pc + 1, ls, .int (Int32.ofInt i) :: st) | _ => none
  | .bipush i => match len with | 2 => some (pc + 2, ls, .int (Int8.ofInt i).toInt32 :: st) | _ => none
  | .sipush i => match len with | 3 => some (pc + 3, ls, .int (Int16.ofInt i).toInt32 :: st) | _ => none
  | .lconst k => match len with | 1 => some (pc + 1, ls, .long (Int64.ofNat k) :: st) | _ => none
  | .aconst_null => match len with | 1 => some (pc + 1, ls, .null :: st) | _ => none
  | .iadd => match len, st with | 1, .int y :: .int x :: r => some (pc + 1, ls, .int (x + y) :: r) | _, _ => none
  | .isub => match len, st with | 1, .int y :: .int x :: r => some (pc + 1, ls, .int (x - y) :: r) | _, _ => none
  | .imul => match len, st with | 1, .int y :: .int x :: r => some (pc + 1, ls, .int (x * y) :: r) | _, _ => none
  | .iand => match len, st with | 1, .int y :: .int x :: r => some (pc + 1, ls, .int (x &&& y) :: r) | _, _ => none
  | .ior => match len, st with | 1, .int y :: .int x :: r => some (pc + 1, ls, .int (x ||| y) :: r) | _, _ => none
  | .ixor => match len, st with | 1, .int y :: .int x :: r => some (pc + 1, ls, .int (x ^^^ y) :: r) | _, _ => none
  | .ishl => match len, st with | 1, .int y :: .int x :: r => some (pc + 1, ls, .int (x <<< (y &&& 31)) :: r) | _, _ => none
  | .ishr => match len, st with | 1, .int y :: .int x :: r => some (pc + 1, ls, .int (x >>> (y &&& 31)) :: r) | _, _ => none
  | .iushr => match len, st with | 1, .int y :: .int x :: r => some (pc + 1, ls, .int (Jvm.Free.XT.ushr x y) :: r) | _, _ => none
  | .ineg => match len, st with | 1, .int x :: r => some (pc + 1, ls, .int (-x) :: r) | _, _ => none
  | .ladd => match len, st with | 1, .long y :: .long x :: r => some (pc + 1, ls, .long (x + y) :: r) | _, _ => none
  | .lsub => match len, st with | 1, .long y :: .long x :: r => some (pc + 1, ls, .long (x - y) :: r) | _, _ => none
  | .lmul => match len, st with | 1, .long y :: .long x :: r => some (pc + 1, ls, .long (x * y) :: r) | _, _ => none
  | .land => match len, st with | 1, .long y :: .long x :: r => some (pc + 1, ls, .long (x &&& y) :: r) | _, _ => none
  | .lor => match len, st with | 1, .long y :: .long x :: r => some (pc + 1, ls, .long (x ||| y) :: r) | _, _ => none
  | .lshl => match len, st with | 1, .int y :: .long x :: r => some (pc + 1, ls, .long (x <<< (y.toInt64 &&& 63)) :: r) | _, _ => none
  | .lshr => match len, st with | 1, .int y :: .long x :: r => some (pc + 1, ls, .long (x >>> (y.toInt64 &&& 63)) :: r) | _, _ => none
  | .lushr => match len, st with | 1, .int y :: .long x :: r => some (pc + 1, ls, .long (Jvm.Free.XT.ushrL x y) :: r) | _, _ => none
  | .lcmp => match len, st with | 1, .long y :: .long x :: r => some (pc + 1, ls, .int (Jvm.Free.XT.cmpL x y) :: r) | _, _ => none
  | .i2l => match len, st with | 1, .int x :: r => some (pc + 1, ls, .long x.toInt64 :: r) | _, _ => none
  | .l2i => match len, st with | 1, .long x :: r => some (pc + 1, ls, .int x.toInt32 :: r) | _, _ => none
  | .i2b => match len, st with | 1, .int x :: r => some (pc + 1, ls, .int x.toInt8.toInt32 :: r) | _, _ => none
  | .i2c => match len, st with | 1, .int x :: r => some (pc + 1, ls, .int x.toUInt32.toUInt16.toUInt32.toInt32 :: r) | _, _ => none
  | .i2s => match len, st with | 1, .int x :: r => some (pc + 1, ls, .int x.toInt16.toInt32 :: r) | _, _ => none
  | .i2d => match len, st with | 1, .int x :: r => some (pc + 1, ls, .double (FP.i2d x) :: r) | _, _ => none
  | .dup => match len, st with | 1, .int x :: r => some (pc + 1, ls, .int x :: .int x :: r) | 1, .ref x :: r => some (pc + 1, ls, .ref x :: .ref x :: r) | 1, .null :: r => some (pc + 1, ls, .null :: .null :: r) | _, _ => none
  | .pop => match len, st with | 1, .int x :: r => some (pc + 1, ls, r) | 1, .ref x :: r => some (pc + 1, ls, r) | 1, .null :: r => some (pc + 1, ls, r) | _, _ => none
  | .dup_x1 => match len, st with | 1, .int x :: .ref y :: r => some (pc + 1, ls, .int x :: .ref y :: .int x :: r) | 1, .int x :: .int y :: r => some (pc + 1, ls, .int x :: .int y :: .int x :: r) | 1, .ref x :: .ref y :: r => some (pc + 1, ls, .ref x :: .ref y :: .ref x :: r) | _, _ => none
  | .dup2 => match len, st with | 1, .int x :: .ref y :: r => some (pc + 1, ls, .int x :: .ref y :: .int x :: .ref y :: r) | 1, .int x :: .int y :: r => some (pc + 1, ls, .int x :: .int y :: .int x :: .int y :: r) | 1, .long x :: r => some (pc + 1, ls, .long x :: .long x :: r) | _, _ => none
  | .goto o => match len, decide (0 ≤ (pc : Int) + o) with | 3, true => some (((pc : Int) + o).toNat, ls, st) | _, _ => none
  | .ifnull o => match len, st, decide (0 ≤ (pc : Int) + o) with | 3, .null :: r, true => some (((pc : Int) + o).toNat, ls, r) | 3, .ref _ :: r, _ => some (pc + 3, ls, r) | _, _, _ => none
  | .ifnonnull o => match len, st, decide (0 ≤ (pc : Int) + o) with | 3, .ref _ :: r, true => some (((pc : Int) + o).toNat, ls, r) | 3, .null :: r, _ => some (pc + 3, ls, r) | _, _, _ => none
  | _ => none
theorem own_st_ok (X : Stand p l e R s m args below meth c T locs cells slots) (hx : p.tables.exec = Jvm.exec) {i : Instr} {len pc' : Nat} {ls' : Array Slot} {st' : List Value} (hd : decode c.code pc = .ok (i, len)) (hs : own_st i len pc ls st = some (pc', ls', st')) (t : State)
    (k : Steps p.tables e below (T.setTop (mkF m pc' ls' st')) t) : Steps p.tables e below (T.setTop (mkF m pc ls st)) t := by
  unfold own_st at hs
  split at hs
  · split at hs <;> first | cases hs | skip
    rename_i q; exact XS.iloadN X.here hx rfl hd q k
  · split at hs <;> first | cases hs | skip
    rename_i q; exact XS.iload X.here hx rfl hd q k
  · split at hs <;> first | cases hs | skip
    rename_i q; exact Jvm.Free.XT.lloadN X.here hx rfl hd q k
  · split at hs <;> first | cases hs | skip
    rename_i q; exact Jvm.Free.XT.lload X.here hx rfl hd q k
  · split at hs <;> first | cases hs | skip
    rename_i q; exact XS.dloadN X.here hx rfl hd q k
  · split at hs <;> first | cases hs | skip
    rename_i q; exact XS.dload X.here hx rfl hd q k
  · split at hs <;> first | cases hs | skip
    · rename_i q; exact XS.aloadN X.here hx rfl hd q rfl k
    · rename_i q; exact XS.aloadN X.here hx rfl hd q rfl k
  · split at hs <;> first | cases hs | skip
    · rename_i q; exact XS.aload X.here hx rfl hd q rfl k
    · rename_i q; exact XS.aload X.here hx rfl hd q rfl k
  · split at hs <;> first | cases hs | skip
    split at hs <;> first | cases hs | skip
    rename_i q; exact XS.istoreN X.here hx rfl hd rfl q k
  · split at hs <;> first | cases hs | skip
    split at hs <;> first | cases hs | skip
    rename_i q; exact XS.istore X.here hx rfl hd rfl q k
  · split at hs <;> first | cases hs | skip
    split at hs <;> first | cases hs | skip
    rename_i q; exact Jvm.Free.XT.lstoreN X.here hx rfl hd rfl q k
  · split at hs <;> first | cases hs | skip
    split at hs <;> first | cases hs | skip
    rename_i q; exact Jvm.Free.XT.lstore X.here hx rfl hd rfl q k
  · split at hs <;> first | cases hs | skip
    split at hs <;> first | cases hs | skip
    rename_i q; exact XS.dstoreN X.here hx rfl hd rfl q k
  · split at hs <;> first | cases hs | skip
    split at hs <;> first | cases hs | skip
    rename_i q; exact XS.dstore X.here hx rfl hd rfl q k
  · split at hs <;> first | cases hs | skip
    all_goals
      split at hs <;> first | cases hs | skip
      rename_i q; exact XS.astoreN X.here hx rfl hd rfl rfl q k
  · split at hs <;> first | cases hs | skip
    all_goals
      split at hs <;> first | cases hs | skip
      rename_i q; exact XS.astore X.here hx rfl hd rfl rfl q k
  · split at hs <;> first | cases hs | skip
    rename_i q0
    split at hs <;> first | cases hs | skip
    rename_i q; exact XS.iinc X.here hx rfl hd q0 q k
  · split at hs <;> first | cases hs | skip
    exact XS.iconst X.here hx rfl hd k
  · split at hs <;> first | cases hs | skip
    exact XS.bipush X.here hx rfl hd k
  · split at hs <;> first | cases hs | skip
    exact XS.sipush X.here hx rfl hd k
  · split at hs <;> first | cases hs | skip
    exact Jvm.Free.XT.lconst X.here hx rfl hd k
  · split at hs <;> first | cases hs | skip
    exact XS.aconstNull X.here hx rfl hd k
  · split at hs <;> first | cases hs | skip
    exact XS.iadd X.here hx rfl hd rfl k
  · split at hs <;> first | cases hs | skip
    exact XS.isub X.here hx rfl hd rfl k
  · split at hs <;> first | cases hs | skip
    exact XS.imul X.here hx rfl hd rfl k
  · split at hs <;> first | cases hs | skip
    exact XS.iand X.here hx rfl hd rfl k
  · split at hs <;> first | cases hs | skip
    exact Jvm.Free.XT.ior X.here hx rfl hd rfl k
  · split at hs <;> first | cases hs | skip
    exact Jvm.Free.XT.ixor X.here hx rfl hd rfl k
  · split at hs <;> first | cases hs | skip
    exact Jvm.Free.XT.ishl X.here hx rfl hd rfl k
  · split at hs <;> first | cases hs | skip
    exact Jvm.Free.XT.ishr X.here hx rfl hd rfl k
  · split at hs <;> first | cases hs | skip
    exact Jvm.Free.XT.iushr X.here hx rfl hd rfl k
  · split at hs <;> first | cases hs | skip
    exact XS.ineg X.here hx rfl hd rfl k
  · split at hs <;> first | cases hs | skip
    exact Jvm.Free.XT.ladd X.here hx rfl hd rfl k
  · split at hs <;> first | cases hs | skip
    exact Jvm.Free.XT.lsub X.here hx rfl hd rfl k
  · split at hs <;> first | cases hs | skip
    exact Jvm.Free.XT.lmul X.here hx rfl hd rfl k
  · split at hs <;> first | cases hs | skip
    exact Jvm.Free.XT.land X.here hx rfl hd rfl k
  · split at hs <;> first | cases hs | skip
    exact Jvm.Free.XT.lor X.here hx rfl hd rfl k
  · split at hs <;> first | cases hs | skip
    exact Jvm.Free.XT.lshl X.here hx rfl hd rfl k
  · split at hs <;> first | cases hs | skip
    exact Jvm.Free.XT.lshr X.here hx rfl hd rfl k
  · split at hs <;> first | cases hs | skip
    exact Jvm.Free.XT.lushr X.here hx rfl hd rfl k
  · split at hs <;> first | cases hs | skip
    exact Jvm.Free.XT.lcmp X.here hx rfl hd rfl k
  · split at hs <;> first | cases hs | skip
    exact Jvm.Free.XT.i2l X.here hx rfl hd rfl k
  · split at hs <;> first | cases hs | skip
    exact Jvm.Free.XT.l2i X.here hx rfl hd rfl k
  · split at hs <;> first | cases hs | skip
    exact Jvm.Free.XT.i2b X.here hx rfl hd rfl k
  · split at hs <;> first | cases hs | skip
    exact Jvm.Free.XT.i2c X.here hx rfl hd rfl k
  · split at hs <;> first | cases hs | skip
    exact Jvm.Free.XT.i2s X.here hx rfl hd rfl k
  · split at hs <;> first | cases hs | skip
    exact XS.i2dS X.here hx rfl hd rfl rfl k
  · split at hs <;> first | cases hs | skip
    all_goals exact XS.dup X.here hx rfl hd rfl rfl k
  · split at hs <;> first | cases hs | skip
    all_goals exact Jvm.Free.XT.pop X.here hx rfl hd rfl rfl k
  · split at hs <;> first | cases hs | skip
    all_goals exact Jvm.Free.XT.dupX1 X.here hx rfl hd rfl rfl rfl k
  · split at hs <;> first | cases hs | skip
    · exact Jvm.Free.XT.dup2 X.here hx rfl hd rfl rfl rfl k
    · exact Jvm.Free.XT.dup2 X.here hx rfl hd rfl rfl rfl k
    · exact Jvm.Free.XT.dup2L X.here hx rfl hd rfl k
  · split at hs <;> first | cases hs | skip
    rename_i q; exact XS.goto X.here hx rfl rfl hd (of_decide_eq_true q) rfl k
  · split at hs <;> first | cases hs | skip
    · rename_i q; exact XS.ifnullYes X.here hx rfl rfl hd rfl (of_decide_eq_true q) rfl k
    · exact XS.ifnullNo X.here hx rfl hd rfl k
  · split at hs <;> first | cases hs | skip
    · rename_i q; exact Jvm.Free.XT.ifnonnullYes X.here hx rfl rfl hd rfl (of_decide_eq_true q) rfl k
    · exact Jvm.Free.XT.ifnonnullNo X.here hx rfl hd rfl k
  · cases hs
/-- a row of plain instructions -/
def own_run : List (Nat × Instr × Nat) → Nat → Array Slot → List Value → Option (Nat × Array Slot × List Value)
  | [], pc, ls, st => some (pc, ls, st)
  | x :: seg, pc, ls, st => match decide (pc = x.1) with
    | true => (match own_st x.2.1 x.2.2 x.1 ls st with | some (pc', ls', st') => own_run seg pc' ls' st' | none => none)
    | false => none
def own_dec (cd : ByteArray) (seg : List (Nat × Instr × Nat)) : Bool := seg.all fun x => decide (decode cd x.1 = .ok x.2)
theorem own_run_ok (X : Stand p l e R s m args below meth c T locs cells slots) (hx : p.tables.exec = Jvm.exec) (hby : c.code = cd) : ∀ (seg : List (Nat × Instr × Nat)) {pc pc' : Nat} {ls ls' : Array Slot} {st st' : List Value}, own_dec cd seg = true → own_run seg pc ls st = some (pc', ls', st') → ∀ t,
    Steps p.tables e below (T.setTop (mkF m pc' ls' st')) t → Steps p.tables e below (T.setTop (mkF m pc ls st)) t := by
  intro seg
  induction seg with
  | nil =>
    intro pc pc' ls ls' st st' _ hr t k
    simp only [own_run, Option.some.injEq, Prod.mk.injEq] at hr
    obtain ⟨rfl, rfl, rfl⟩ := hr
    exact k
  | cons x seg ih =>
    intro pc pc' ls ls' st st' hd hr t k
    simp only [own_dec, List.all_cons, Bool.and_eq_true, decide_eq_true_eq] at hd
    simp only [own_run] at hr
    split at hr
    · rename_i q
      have q' : pc = x.1 := of_decide_eq_true q
      subst q'
      split at hr
      · rename_i a1 b1 c1 q2
        exact own_st_ok X hx (by rw [hby]; exact hd.1) q2 t (ih hd.2 hr t k)
      · cases hr
    · cases hr
theorem own_seg (C : own_Cx p s m meth c Z own cd maxL ret nm) (S : own_S p l e R s m args below meth c n0 T h cells slots) (seg : List (Nat × Instr × Nat)) (hd : own_dec cd seg = true) (pc' : Nat) (ls' : Array Slot) (st' : List Value)
    (hr : own_run seg pc ls st = some (pc', ls', st')) (k : own_Go p e below s n0 F kc ks T (mkF m pc' ls' st')) : own_Go p e below s n0 F kc ks T (mkF m pc ls st) := by
  obtain ⟨locs, kk, n, X, -⟩ := S
  exact own_step (own_run_ok X C.1 C.2.1 seg hd hr) k
/-! branches -/
def own_P : ClassFile.Cond → Int32 → Int32 → Prop
  | .eq, x, y => x = y | .ne, x, y => ¬ x = y | .lt, x, y => x < y | .ge, x, y => ¬ x < y | .gt, x, y => y < x | .le, x, y => ¬ y < x
def own_N : ClassFile.Cond → Int32 → Int32 → Prop
  | .eq, x, y => ¬ x = y | .ne, x, y => x = y | .lt, x, y => ¬ x < y | .ge, x, y => x < y | .gt, x, y => ¬ y < x | .le, x, y => y < x
theorem own_holds (q : ClassFile.Cond) (x y : Int32) : (own_P q x y ∧ if_icmp.holds q x y = true) ∨ (own_N q x y ∧ if_icmp.holds q x y = false) := by
  cases q
  · by_cases g : x = y
    · exact Or.inl ⟨g, (teq g).1⟩
    · exact Or.inr ⟨g, (feq g).1⟩
  · by_cases g : x = y
    · exact Or.inr ⟨g, (teq g).2⟩
    · exact Or.inl ⟨g, (feq g).2⟩
  · by_cases g : x < y
    · exact Or.inl ⟨g, (tlt g).1⟩
    · exact Or.inr ⟨g, (flt g).1⟩
  · by_cases g : x < y
    · exact Or.inr ⟨g, (tlt g).2.1⟩
    · exact Or.inl ⟨g, (flt g).2.1⟩
  · by_cases g : y < x
    · exact Or.inl ⟨g, (tlt g).2.2.1⟩
    · exact Or.inr ⟨g, (flt g).2.2.1⟩
  · by_cases g : y < x
    · exact Or.inr ⟨g, (tlt g).2.2.2⟩
    · exact Or.inl ⟨g, (flt g).2.2.2⟩
theorem own_icmp (C : own_Cx p s m meth c Z own cd maxL ret nm) (S : own_S p l e R s m args below meth c n0 T h cells slots) {q : ClassFile.Cond} {o : Int} {x y : Int32} (hd : decode cd pc = .ok (.if_icmp q o, 3)) (pc' : Nat) (ho : 0 ≤ (pc : Int) + o) (hp : ((pc : Int) + o).toNat = pc')
    (k1 : own_P q x y → own_Go p e below s n0 F kc ks T (mkF m pc' ls st)) (k2 : own_N q x y → own_Go p e below s n0 F kc ks T (mkF m (pc + 3) ls st)) : own_Go p e below s n0 F kc ks T (mkF m pc ls (.int y :: .int x :: st)) := by
  obtain ⟨locs, kk, n, X, -⟩ := S
  rcases own_holds q x y with ⟨g, hc⟩ | ⟨g, hc⟩
  · exact own_step (fun t k => XS.icmpYes X.here C.1 rfl rfl (own_hd C hd) rfl hc ho hp k) (k1 g)
  · exact own_step (fun t k => XS.icmpNo X.here C.1 rfl (own_hd C hd) rfl hc k) (k2 g)
theorem own_if (C : own_Cx p s m meth c Z own cd maxL ret nm) (S : own_S p l e R s m args below meth c n0 T h cells slots) {q : ClassFile.Cond} {o : Int} {x : Int32} (hd : decode cd pc = .ok (.ifCond q o, 3)) (pc' : Nat) (ho : 0 ≤ (pc : Int) + o) (hp : ((pc : Int) + o).toNat = pc')
    (k1 : own_P q x 0 → own_Go p e below s n0 F kc ks T (mkF m pc' ls st)) (k2 : own_N q x 0 → own_Go p e below s n0 F kc ks T (mkF m (pc + 3) ls st)) : own_Go p e below s n0 F kc ks T (mkF m pc ls (.int x :: st)) := by
  obtain ⟨locs, kk, n, X, -⟩ := S
  rcases own_holds q x 0 with ⟨g, hc⟩ | ⟨g, hc⟩ <;> rw [← if0] at hc
  · exact own_step (fun t k => XS.ifYes X.here C.1 rfl rfl (own_hd C hd) rfl hc ho hp k) (k1 g)
  · exact own_step (fun t k => XS.ifNo X.here C.1 rfl (own_hd C hd) rfl hc k) (k2 g)
def own_A : ClassFile.ACond → Value → Value → Prop
  | .eq, x, y => x = y | .ne, x, y => ¬ x = y
def own_B : ClassFile.ACond → Value → Value → Prop
  | .eq, x, y => ¬ x = y | .ne, x, y => x = y
theorem own_acmp (C : own_Cx p s m meth c Z own cd maxL ret nm) (S : own_S p l e R s m args below meth c n0 T h cells slots) {q : ClassFile.ACond} {o : Int} {x y : Value} (hx' : x.isRef = true) (hy' : y.isRef = true) (hd : decode cd pc = .ok (.if_acmp q o, 3)) (pc' : Nat) (ho : 0 ≤ (pc : Int) + o) (hp : ((pc : Int) + o).toNat = pc')
    (k1 : own_A q x y → own_Go p e below s n0 F kc ks T (mkF m pc' ls st)) (k2 : own_B q x y → own_Go p e below s n0 F kc ks T (mkF m (pc + 3) ls st)) : own_Go p e below s n0 F kc ks T (mkF m pc ls (y :: x :: st)) := by
  obtain ⟨locs, kk, n, X, -⟩ := S
  cases q <;> by_cases g : x = y
  · exact own_step (fun t k => Jvm.Free.XT.acmpYes X.here C.1 rfl rfl (own_hd C hd) rfl hx' hy' (Jvm.Free.XT.aa_eq_t g) ho hp k) (k1 g)
  · exact own_step (fun t k => Jvm.Free.XT.acmpNo X.here C.1 rfl (own_hd C hd) rfl hx' hy' (Jvm.Free.XT.aa_eq_f g) k) (k2 g)
  · exact own_step (fun t k => Jvm.Free.XT.acmpNo X.here C.1 rfl (own_hd C hd) rfl hx' hy' (Jvm.Free.XT.aa_ne_f g) k) (k2 g)
  · exact own_step (fun t k => Jvm.Free.XT.acmpYes X.here C.1 rfl rfl (own_hd C hd) rfl hx' hy' (Jvm.Free.XT.aa_ne_t g) ho hp k) (k1 g)
/-! arithmetic with premises -/
theorem own_idiv (C : own_Cx p s m meth c Z own cd maxL ret nm) (S : own_S p l e R s m args below meth c n0 T h cells slots) {x y : Int32} (hd : decode cd pc = .ok (.idiv, 1)) (hy : y ≠ 0) (k : own_Go p e below s n0 F kc ks T (mkF m (pc + 1) ls (.int (x / y) :: st))) : own_Go p e below s n0 F kc ks T (mkF m pc ls (.int y :: .int x :: st)) := by
  obtain ⟨locs, kk, n, X, -⟩ := S
  exact own_step (fun t k => XS.idiv X.here C.1 rfl (own_hd C hd) rfl hy k) k
theorem own_irem (C : own_Cx p s m meth c Z own cd maxL ret nm) (S : own_S p l e R s m args below meth c n0 T h cells slots) {x y : Int32} (hd : decode cd pc = .ok (.irem, 1)) (hy : y ≠ 0) (k : own_Go p e below s n0 F kc ks T (mkF m (pc + 1) ls (.int (x % y) :: st))) : own_Go p e below s n0 F kc ks T (mkF m pc ls (.int y :: .int x :: st)) := by
  obtain ⟨locs, kk, n, X, -⟩ := S
  exact own_step (fun t k => iremM X C.1 rfl (own_hd C hd) rfl hy k) k
theorem own_dcmp (C : own_Cx p s m meth c Z own cd maxL ret nm) (S : own_S p l e R s m args below meth c n0 T h cells slots) {o : CmpOp} {x y : UInt64} (v : Int32) (hd : decode cd pc = .ok (.dcmp o, 1)) (hv : cmpValue (FP.dcmp x y) o = v) (k : own_Go p e below s n0 F kc ks T (mkF m (pc + 1) ls (.int v :: st))) : own_Go p e below s n0 F kc ks T (mkF m pc ls (.double y :: .double x :: st)) := by
  obtain ⟨locs, kk, n, X, -⟩ := S
  exact own_step (fun t k => XS.dcmpS X.here C.1 rfl (own_hd C hd) rfl hv k) k
theorem own_ddiv (C : own_Cx p s m meth c Z own cd maxL ret nm) (S : own_S p l e R s m args below meth c n0 T h cells slots) {x y : UInt64} (v : UInt64) (hd : decode cd pc = .ok (.ddiv, 1)) (hn : Jvm.Free.Fl.NoNaN64 (FP.ddiv x y)) (hv : FP.ddiv x y = v) (k : own_Go p e below s n0 F kc ks T (mkF m (pc + 1) ls (.double v :: st))) : own_Go p e below s n0 F kc ks T (mkF m pc ls (.double y :: .double x :: st)) := by
  obtain ⟨locs, kk, n, X, -⟩ := S
  exact own_step (fun t k => XS.ddivS X.here C.1 rfl (own_hd C hd) rfl hn hv k) k
theorem own_dmul (C : own_Cx p s m meth c Z own cd maxL ret nm) (S : own_S p l e R s m args below meth c n0 T h cells slots) {x y : UInt64} (v : UInt64) (hd : decode cd pc = .ok (.dmul, 1)) (hn : Jvm.Free.Fl.NoNaN64 (FP.dmul x y)) (hv : FP.dmul x y = v) (k : own_Go p e below s n0 F kc ks T (mkF m (pc + 1) ls (.double v :: st))) : own_Go p e below s n0 F kc ks T (mkF m pc ls (.double y :: .double x :: st)) := by
  obtain ⟨locs, kk, n, X, -⟩ := S
  exact own_step (fun t k => XS.dmulS X.here C.1 rfl (own_hd C hd) rfl hn hv k) k
theorem own_dadd (C : own_Cx p s m meth c Z own cd maxL ret nm) (S : own_S p l e R s m args below meth c n0 T h cells slots) {x y : UInt64} (v : UInt64) (hd : decode cd pc = .ok (.dadd, 1)) (hn : Jvm.Free.Fl.NoNaN64 (FP.dadd x y)) (hv : FP.dadd x y = v) (k : own_Go p e below s n0 F kc ks T (mkF m (pc + 1) ls (.double v :: st))) : own_Go p e below s n0 F kc ks T (mkF m pc ls (.double y :: .double x :: st)) := by
  obtain ⟨locs, kk, n, X, -⟩ := S
  exact own_step (fun t k => XS.daddS X.here C.1 rfl (own_hd C hd) rfl hn hv k) k
theorem own_dconst0 (C : own_Cx p s m meth c Z own cd maxL ret nm) (S : own_S p l e R s m args below meth c n0 T h cells slots) (hd : decode cd pc = .ok (.dconst 0, 1)) (k : own_Go p e below s n0 F kc ks T (mkF m (pc + 1) ls (.double 0 :: st))) : own_Go p e below s n0 F kc ks T (mkF m pc ls st) := by
  obtain ⟨locs, kk, n, X, -⟩ := S
  exact own_step (fun t k => XS.dconst0 X.here C.1 rfl (own_hd C hd) rfl k) k
/-! constants -/
theorem own_ldc (C : own_Cx p s m meth c Z own cd maxL ret nm) (S : own_S p l e R s m args below meth c n0 T h cells slots) {index : Nat} {v : Int32} (w : (Jvm.Cond.constant own index v).before a0 Z = true) (hd : decode cd pc = .ok (.ldc index, 2)) (k : own_Go p e below s n0 F kc ks T (mkF m (pc + 2) ls (.int v :: st))) : own_Go p e below s n0 F kc ks T (mkF m pc ls st) := by
  obtain ⟨locs, kk, n, X, -⟩ := S
  exact own_step (fun t k => X.ldcInt C.1 C.2.2.2.1 (mv C.2.2.2.2.2.2.2 w) (g := mkF m pc ls st) rfl (own_hd C hd) t k) k
theorem own_ldc2D (C : own_Cx p s m meth c Z own cd maxL ret nm) (S : own_S p l e R s m args below meth c n0 T h cells slots) {index : Nat} {v : UInt64} (w : (Jvm.Cond.constantDouble own index v).before a0 Z = true) (hd : decode cd pc = .ok (.ldc2_w index, 3)) (k : own_Go p e below s n0 F kc ks T (mkF m (pc + 3) ls (.double v :: st))) : own_Go p e below s n0 F kc ks T (mkF m pc ls st) := by
  obtain ⟨locs, kk, n, X, -⟩ := S
  exact own_step (fun t k => X.ldc2DoubleC C.1 C.2.2.2.1 (mv C.2.2.2.2.2.2.2 w) (g := mkF m pc ls st) rfl (own_hd C hd) t k) k
theorem own_ldc2J (C : own_Cx p s m meth c Z own cd maxL ret nm) (S : own_S p l e R s m args below meth c n0 T h cells slots) {index : Nat} {v : Int64} (w : (Jvm.Cond.constantLong own index v).before a0 Z = true) (hd : decode cd pc = .ok (.ldc2_w index, 3)) (k : own_Go p e below s n0 F kc ks T (mkF m (pc + 3) ls (.long v :: st))) : own_Go p e below s n0 F kc ks T (mkF m pc ls st) := by
  obtain ⟨locs, kk, n, X, -⟩ := S
  exact own_step (fun t k => X.ldc2Long C.1 C.2.2.2.1 (mv C.2.2.2.2.2.2.2 w) (g := mkF m pc ls st) rfl (own_hd C hd) t k) k
/-! fields and objects -/
theorem own_getF (C : own_Cx p s m meth c Z own cd maxL ret nm) (S : own_S p l e R s m args below meth c n0 T h cells slots) {index : Nat} {R0 O n d host : String} {a : Addr} {v : Value} (w : (Jvm.Cond.fieldLink own index R0 n d).before a0 Z = true ∨ (Jvm.Cond.fieldLinkNest own index R0 n d host).before a0 Z = true) (via : Via Z R0 O n d) (FF : Fld Z h a O n d v) (hd : decode cd pc = .ok (.getfield index, 3))
    (k : ∀ T', own_S p l e R s m args below meth c n0 T' h cells slots → own_Go p e below s n0 F kc ks T' (mkF m (pc + 3) ls (v :: st))) : own_Go p e below s n0 F kc ks T (mkF m pc ls (.ref a :: st)) := by
  obtain ⟨locs, kk, nn, X, eT, N, q1, q2⟩ := S
  obtain ⟨T', X', e', stp⟩ := getF X C.1 C.2.2.2.2.2.2.2 C.2.2.2.1 w via eT FF (g := mkF m pc ls (.ref a :: st)) rfl rfl (own_hd C hd)
  exact own_step stp (k T' ⟨_, _, _, X', e', N, q1, q2⟩)
theorem own_getS (C : own_Cx p s m meth c Z own cd maxL ret nm) (S : own_S p l e R s m args below meth c n0 T h cells slots) {index : Nat} {R0 O n d : String} {v : Value} (w : (Jvm.Cond.fieldLink own index R0 n d).before a0 Z = true) (via : Via Z R0 O n d) (FF : Sta Z h O n d v) (hd : decode cd pc = .ok (.getstatic index, 3))
    (k : ∀ T', own_S p l e R s m args below meth c n0 T' h cells slots → own_Go p e below s n0 F kc ks T' (mkF m (pc + 3) ls (v :: st))) : own_Go p e below s n0 F kc ks T (mkF m pc ls st) := by
  obtain ⟨locs, kk, nn, X, eT, N, q1, q2⟩ := S
  obtain ⟨T', X', e', stp⟩ := getS X C.1 C.2.2.2.2.2.2.2 (host := "") C.2.2.2.1 w via eT FF (g := mkF m pc ls st) rfl (own_hd C hd)
  exact own_step stp (k T' ⟨_, _, _, X', e', N, q1, q2⟩)
theorem own_putF (C : own_Cx p s m meth c Z own cd maxL ret nm) (S : own_S p l e R s m args below meth c n0 T h cells slots) {index ki : Nat} {R0 O n d host Cl : String} {a : Addr} {v old : Value} {ty : FieldType} (w : (Jvm.Cond.fieldLink own index R0 n d).before a0 Z = true ∨ (Jvm.Cond.fieldLinkNest own index R0 n d host).before a0 Z = true) (via : Via Z R0 O n d) (FF : Fld Z h a O n d old) (E : Exa Z h a Cl)
    (L : (Jvm.Cond.lays Cl O n d).before a0 Z = true ∨ ((Jvm.Cond.laysFinal Cl O n d).before a0 Z = true ∧ own = O ∧ nm = "<init>")) (wi : (Jvm.Cond.instantiable Cl ki).before a0 Z = true) (hty : parseFieldDescriptor d = some ty) (hn : narrow ty v = v) (hf : fits ty v = true) (hge : n0 ≤ a) (hd : decode cd pc = .ok (.putfield index, 3))
    (k : ∀ T' h', own_S p l e R s m args below meth c n0 T' h' cells slots → Wr h h' a (Jvm.RoadKit.slotOf Z O n d) v → own_Go p e below s n0 F kc ks T' (mkF m (pc + 3) ls st)) : own_Go p e below s n0 F kc ks T (mkF m pc ls (v :: .ref a :: st)) := by
  obtain ⟨locs, kk, nn, X, eT, N, q1, q2⟩ := S
  obtain ⟨T', h', X', e', W, stp⟩ := putF X C.1 C.2.2.2.2.2.2.2 C.2.2.2.1 w via eT FF E (L.imp id (fun q => ⟨q.1, q.2.1, C.2.2.2.2.1.trans q.2.2⟩)) wi hty hn hf (g := mkF m pc ls (v :: .ref a :: st)) rfl rfl (own_hd C hd)
  exact own_step stp (k T' h' ⟨_, _, _, X', e', Fr.snoc X' N hge, q1, q2⟩ W)
theorem own_new (C : own_Cx p s m meth c Z own cd maxL ret nm) (S : own_S p l e R s m args below meth c n0 T h cells slots) {index ki : Nat} {Cl : String} (w : (Jvm.Cond.classLink own index Cl).before a0 Z = true) (wi : (Jvm.Cond.instantiable Cl ki).before a0 Z = true) (wz : (Jvm.Cond.initialized Cl).before a0 Z = true) (hd : decode cd pc = .ok (.new index, 3)) (hc : cells + 1 ≤ R.cells) (hl : slots + ki ≤ R.slots)
    (k : ∀ T' h' a, own_S p l e R s m args below meth c n0 T' h' (cells + 1) (slots + ki) → a = h.size → Ext h h' → Exa Z h' a Cl → (∀ {O nm d : String} {ty : FieldType}, Laid Z a0 Cl O nm d → parseFieldDescriptor d = some ty → Fld Z h' a O nm d (defaultValue ty)) → own_Go p e below s n0 F kc ks T' (mkF m (pc + 3) ls (.ref a :: st))) : own_Go p e below s n0 F kc ks T (mkF m pc ls st) := by
  obtain ⟨locs, kk, nn, X, eT, N, q1, q2⟩ := S
  obtain ⟨T', h', X', e', E, A, D, -, stp⟩ := newO X C.1 C.2.2.2.2.2.2.2 C.2.2.2.1 w wi wz eT (g := mkF m pc ls st) rfl (own_hd C hd) (by omega) (by omega)
  exact own_step stp (k T' h' _ ⟨_, _, _, X', e', N, by omega, by omega⟩ rfl E A D)
theorem own_initO (C : own_Cx p s m meth c Z own cd maxL ret nm) (S : own_S p l e R s m args below meth c n0 T h cells slots) {index : Nat} (w1 : (Jvm.Cond.methodLink own index Lib.objectInit).before a0 Z = true) (w2 : (Jvm.Cond.instanceMethod Lib.objectInit).before a0 Z = true) (w3 : (Jvm.Cond.code Lib.objectInit ⟨#[0xb1]⟩ 1 none).before a0 Z = true) {a : Addr} (hsz : ls.size = maxL) (hd : decode cd pc = .ok (.invokespecial index, 3)) (hf : 1 ≤ R.frames) (W : Nat) (hW : (st.map fun v => v.category).sum ≤ W) (hl : W + 12 ≤ R.locals)
    (k : ∀ T', own_S p l e R s m args below meth c n0 T' h cells slots → own_Go p e below s n0 F kc ks T' (mkF m (pc + 3) ls st)) : own_Go p e below s n0 F kc ks T (mkF m pc ls (.ref a :: st)) := by
  obtain ⟨locs, kk, nn, X, eT, N, q1, q2⟩ := S
  obtain ⟨T', X', e', stp⟩ := initO X C.1 C.2.2.2.2.2.2.2 C.2.2.2.1 w1 w2 w3 eT (g := mkF m pc ls (.ref a :: st)) rfl (own_hsz C hsz) rfl (own_hd C hd) hf (W := W) (by show 2 * 0 + _ ≤ W; omega) hl
  exact own_step stp (k T' ⟨_, _, _, X', e', N, q1, q2⟩)
/-! arrays -/
theorem own_newP (C : own_Cx p s m meth c Z own cd maxL ret nm) (S : own_S p l e R s m args below meth c n0 T h cells slots) {aty : ArrayType} (w : (Jvm.Cond.arrayClass (newarray.typeOf aty)).before a0 Z = true) (hd : decode cd pc = .ok (.newarray aty, 2)) {n : Int32} (hn : ¬ n < 0) (cap : Nat) (hcap : n.toNatClampNeg ≤ cap) (hb : cap * 8 ≤ 536870912) (hc : cells + 1 ≤ R.cells) (hl : slots + cap ≤ R.slots)
    (k : ∀ T' h' a cA, own_S p l e R s m args below meth c n0 T' h' (cells + 1) (slots + cap) → a = h.size → Ext h h' → Arv Z h' a cA (newarray.typeOf aty) n [] (defaultValue (newarray.typeOf aty)) → own_Go p e below s n0 F kc ks T' (mkF m (pc + 2) ls (.ref a :: st))) : own_Go p e below s n0 F kc ks T (mkF m pc ls (.int n :: st)) := by
  obtain ⟨locs, kk, nn, X, eT, N, q1, q2⟩ := S
  obtain ⟨T', h', cA, X', e', E, A, stp⟩ := newP X C.1 C.2.2.2.2.2.2.2 w eT (g := mkF m pc ls (.int n :: st)) rfl (own_hd C hd) rfl hn hcap hb (by omega) (by omega)
  exact own_step stp (k T' h' _ cA ⟨_, _, _, X', e', N, by omega, by omega⟩ rfl E (Arv.new A hn))
theorem own_alen (C : own_Cx p s m meth c Z own cd maxL ret nm) (S : own_S p l e R s m args below meth c n0 T h cells slots) {a : Addr} {ka : ClassId} {ty : FieldType} {N : Int32} {vs : List Value} {dv : Value} (FF : Arv Z h a ka ty N vs dv) (hd : decode cd pc = .ok (.arraylength, 1)) (k : own_Go p e below s n0 F kc ks T (mkF m (pc + 1) ls (.int N :: st))) : own_Go p e below s n0 F kc ks T (mkF m pc ls (.ref a :: st)) := by
  obtain ⟨locs, kk, nn, X, eT, -⟩ := S
  obtain ⟨cl, A, -, sz, hN, -⟩ := FF
  rw [← len_of sz hN] at k
  exact own_step (fun t k => X.arraylength C.1 (by rw [eT]; exact A.1) (State.isArrayOf_alike C.2.2.2.2.2.2.2.alike A.2.1) (g := mkF m pc ls (.ref a :: st)) rfl rfl (own_hd C hd) t k) k
theorem own_caload (C : own_Cx p s m meth c Z own cd maxL ret nm) (S : own_S p l e R s m args below meth c n0 T h cells slots) {a : Addr} {ka : ClassId} {N j : Int32} {vs : List Value} {dv : Value} (FF : Arv Z h a ka .char N vs dv) (hin : ¬ j < 0 ∧ j < N) (v : Value) (hv : vs.getD j.toNatClampNeg dv = v) (hd : decode cd pc = .ok (.caload, 1)) (k : own_Go p e below s n0 F kc ks T (mkF m (pc + 1) ls (v :: st))) : own_Go p e below s n0 F kc ks T (mkF m pc ls (.int j :: .ref a :: st)) := by
  obtain ⟨locs, kk, nn, X, eT, -⟩ := S
  obtain ⟨cl, A, -, sz, hN, H, -⟩ := FF
  exact own_step (fun t k => X.caload C.1 (by rw [eT]; exact A.1) (State.isArrayOf_alike C.2.2.2.2.2.2.2.alike A.2.1) A.2.2 (inb_of sz hin) (Has.at H (inb_of sz hin) hv) (g := mkF m pc ls (.int j :: .ref a :: st)) rfl rfl (own_hd C hd) t k) k
theorem own_iaload (C : own_Cx p s m meth c Z own cd maxL ret nm) (S : own_S p l e R s m args below meth c n0 T h cells slots) {a : Addr} {ka : ClassId} {N j : Int32} {vs : List Value} {dv : Value} (FF : Arv Z h a ka .int N vs dv) (hin : ¬ j < 0 ∧ j < N) (v : Value) (hv : vs.getD j.toNatClampNeg dv = v) (hd : decode cd pc = .ok (.iaload, 1)) (k : own_Go p e below s n0 F kc ks T (mkF m (pc + 1) ls (v :: st))) : own_Go p e below s n0 F kc ks T (mkF m pc ls (.int j :: .ref a :: st)) := by
  obtain ⟨locs, kk, nn, X, eT, -⟩ := S
  obtain ⟨cl, A, -, sz, hN, H, -⟩ := FF
  exact own_step (fun t k => X.iaload C.1 (by rw [eT]; exact A.1) (State.isArrayOf_alike C.2.2.2.2.2.2.2.alike A.2.1) A.2.2 (inb_of sz hin) (Has.at H (inb_of sz hin) hv) (g := mkF m pc ls (.int j :: .ref a :: st)) rfl rfl (own_hd C hd) t k) k
theorem own_baload (C : own_Cx p s m meth c Z own cd maxL ret nm) (S : own_S p l e R s m args below meth c n0 T h cells slots) {a : Addr} {ka : ClassId} {N j : Int32} {vs : List Value} {dv : Value} (FF : Arv Z h a ka .byte N vs dv) (hin : ¬ j < 0 ∧ j < N) (v : Value) (hv : vs.getD j.toNatClampNeg dv = v) (hd : decode cd pc = .ok (.baload, 1)) (k : own_Go p e below s n0 F kc ks T (mkF m (pc + 1) ls (v :: st))) : own_Go p e below s n0 F kc ks T (mkF m pc ls (.int j :: .ref a :: st)) := by
  obtain ⟨locs, kk, nn, X, eT, -⟩ := S
  obtain ⟨cl, A, -, sz, hN, H, -⟩ := FF
  exact own_step (fun t k => X.baloadBytes C.1 (by rw [eT]; exact A.1) (State.isArrayOf_alike C.2.2.2.2.2.2.2.alike A.2.1) A.2.2 (inb_of sz hin) (Has.at H (inb_of sz hin) hv) (g := mkF m pc ls (.int j :: .ref a :: st)) rfl rfl (own_hd C hd) t k) k
theorem own_daload (C : own_Cx p s m meth c Z own cd maxL ret nm) (S : own_S p l e R s m args below meth c n0 T h cells slots) {a : Addr} {ka : ClassId} {N j : Int32} {vs : List Value} {dv : Value} (FF : Arv Z h a ka .double N vs dv) (hin : ¬ j < 0 ∧ j < N) (v : Value) (hv : vs.getD j.toNatClampNeg dv = v) (hd : decode cd pc = .ok (.daload, 1)) (k : own_Go p e below s n0 F kc ks T (mkF m (pc + 1) ls (v :: st))) : own_Go p e below s n0 F kc ks T (mkF m pc ls (.int j :: .ref a :: st)) := by
  obtain ⟨locs, kk, nn, X, eT, -⟩ := S
  obtain ⟨cl, A, -, sz, hN, H, -⟩ := FF
  exact own_step (fun t k => X.daload C.1 (by rw [eT]; exact A.1) (State.isArrayOf_alike C.2.2.2.2.2.2.2.alike A.2.1) A.2.2 (inb_of sz hin) (Has.at H (inb_of sz hin) hv) (g := mkF m pc ls (.int j :: .ref a :: st)) rfl rfl (own_hd C hd) t k) k
theorem own_castore (C : own_Cx p s m meth c Z own cd maxL ret nm) (S : own_S p l e R s m args below meth c n0 T h cells slots) {a : Addr} {ka : ClassId} {N j x : Int32} {vs : List Value} {dv : Value} (FF : Arv Z h a ka .char N vs dv) (hin : ¬ j < 0 ∧ j < N) (i : Nat) (hj : j.toNatClampNeg = i) (hi : i < vs.length) (x' : Int32) (hx' : nar .char x = x') (hge : n0 ≤ a) (hd : decode cd pc = .ok (.castore, 1))
    (k : ∀ T' h', own_S p l e R s m args below meth c n0 T' h' cells slots → Wr h h' a j.toNatClampNeg (.int x') → Arv Z h' a ka .char N (vs.set i (.int x')) dv → own_Go p e below s n0 F kc ks T' (mkF m (pc + 1) ls st)) : own_Go p e below s n0 F kc ks T (mkF m pc ls (.int x :: .int j :: .ref a :: st)) := by
  subst hx'
  obtain ⟨locs, kk, nn, X, eT, N, q1, q2⟩ := S
  obtain ⟨cl, A, ck, sz, hN, H, G⟩ := FF
  obtain ⟨T', h', X', e', W, stp⟩ := stC X C.1 C.2.2.2.2.2.2.2 eT A (inb_of sz hin) (g := mkF m pc ls (.int x :: .int j :: .ref a :: st)) rfl rfl (own_hd C hd)
  exact own_step stp (k T' h' ⟨_, _, _, X', e', Fr.snoc X' N hge, q1, q2⟩ W (Arv.set A ck sz hN H G (fits_nar_char x) W i hj hi))
theorem own_bastore (C : own_Cx p s m meth c Z own cd maxL ret nm) (S : own_S p l e R s m args below meth c n0 T h cells slots) {a : Addr} {ka : ClassId} {N j x : Int32} {vs : List Value} {dv : Value} (FF : Arv Z h a ka .byte N vs dv) (hin : ¬ j < 0 ∧ j < N) (i : Nat) (hj : j.toNatClampNeg = i) (hi : i < vs.length) (x' : Int32) (hx' : nar .byte x = x') (hge : n0 ≤ a) (hd : decode cd pc = .ok (.bastore, 1))
    (k : ∀ T' h', own_S p l e R s m args below meth c n0 T' h' cells slots → Wr h h' a j.toNatClampNeg (.int x') → Arv Z h' a ka .byte N (vs.set i (.int x')) dv → own_Go p e below s n0 F kc ks T' (mkF m (pc + 1) ls st)) : own_Go p e below s n0 F kc ks T (mkF m pc ls (.int x :: .int j :: .ref a :: st)) := by
  subst hx'
  obtain ⟨locs, kk, nn, X, eT, N, q1, q2⟩ := S
  obtain ⟨cl, A, ck, sz, hN, H, G⟩ := FF
  obtain ⟨T', h', X', e', W, stp⟩ := stB X C.1 C.2.2.2.2.2.2.2 eT A (inb_of sz hin) (g := mkF m pc ls (.int x :: .int j :: .ref a :: st)) rfl rfl (own_hd C hd)
  exact own_step stp (k T' h' ⟨_, _, _, X', e', Fr.snoc X' N hge, q1, q2⟩ W (Arv.set A ck sz hN H G (fits_nar_byte x) W i hj hi))
theorem own_iastore (C : own_Cx p s m meth c Z own cd maxL ret nm) (S : own_S p l e R s m args below meth c n0 T h cells slots) {a : Addr} {ka : ClassId} {N j x : Int32} {vs : List Value} {dv : Value} (FF : Arv Z h a ka .int N vs dv) (hin : ¬ j < 0 ∧ j < N) (i : Nat) (hj : j.toNatClampNeg = i) (hi : i < vs.length) (hge : n0 ≤ a) (hd : decode cd pc = .ok (.iastore, 1))
    (k : ∀ T' h', own_S p l e R s m args below meth c n0 T' h' cells slots → Wr h h' a j.toNatClampNeg (.int x) → Arv Z h' a ka .int N (vs.set i (.int x)) dv → own_Go p e below s n0 F kc ks T' (mkF m (pc + 1) ls st)) : own_Go p e below s n0 F kc ks T (mkF m pc ls (.int x :: .int j :: .ref a :: st)) := by
  obtain ⟨locs, kk, nn, X, eT, N, q1, q2⟩ := S
  obtain ⟨cl, A, ck, sz, hN, H, G⟩ := FF
  obtain ⟨T', h', X', e', W, stp⟩ := stI X C.1 C.2.2.2.2.2.2.2 eT A (inb_of sz hin) (g := mkF m pc ls (.int x :: .int j :: .ref a :: st)) rfl rfl (own_hd C hd)
  exact own_step stp (k T' h' ⟨_, _, _, X', e', Fr.snoc X' N hge, q1, q2⟩ W (Arv.set A ck sz hN H G rfl W i hj hi))
theorem own_dastore (C : own_Cx p s m meth c Z own cd maxL ret nm) (S : own_S p l e R s m args below meth c n0 T h cells slots) {a : Addr} {ka : ClassId} {N j : Int32} {x : UInt64} {vs : List Value} {dv : Value} (FF : Arv Z h a ka .double N vs dv) (hin : ¬ j < 0 ∧ j < N) (i : Nat) (hj : j.toNatClampNeg = i) (hi : i < vs.length) (hge : n0 ≤ a) (hd : decode cd pc = .ok (.dastore, 1))
    (k : ∀ T' h', own_S p l e R s m args below meth c n0 T' h' cells slots → Wr h h' a j.toNatClampNeg (.double x) → Arv Z h' a ka .double N (vs.set i (.double x)) dv → own_Go p e below s n0 F kc ks T' (mkF m (pc + 1) ls st)) : own_Go p e below s n0 F kc ks T (mkF m pc ls (.double x :: .int j :: .ref a :: st)) := by
  obtain ⟨locs, kk, nn, X, eT, N, q1, q2⟩ := S
  obtain ⟨cl, A, ck, sz, hN, H, G⟩ := FF
  obtain ⟨T', h', X', e', W, stp⟩ := stD X C.1 C.2.2.2.2.2.2.2 eT A (inb_of sz hin) (g := mkF m pc ls (.double x :: .int j :: .ref a :: st)) rfl rfl (own_hd C hd)
  exact own_step stp (k T' h' ⟨_, _, _, X', e', Fr.snoc X' N hge, q1, q2⟩ W (Arv.set A ck sz hN H G rfl W i hj hi))
/-! arrays of objects, casts -/
theorem own_newR (C : own_Cx p s m meth c Z own cd maxL ret nm) (S : own_S p l e R s m args below meth c n0 T h cells slots) {index : Nat} {Cl : String} (w1 : (Jvm.Cond.classLink own index Cl).before a0 Z = true) (w2 : (Jvm.Cond.arrayOver (.object Cl)).before a0 Z = true) (hd : decode cd pc = .ok (.anewarray index, 3)) {n : Int32} (hn : ¬ n < 0) (cap : Nat) (hcap : n.toNatClampNeg ≤ cap) (hb : cap * 8 ≤ 536870912) (hc : cells + 1 ≤ R.cells) (hl : slots + cap ≤ R.slots)
    (k : ∀ T' h' a cA, own_S p l e R s m args below meth c n0 T' h' (cells + 1) (slots + cap) → a = h.size → Ext h h' → Arv Z h' a cA (.object Cl) n [] .null → Ovr Z cA Cl → own_Go p e below s n0 F kc ks T' (mkF m (pc + 3) ls (.ref a :: st))) : own_Go p e below s n0 F kc ks T (mkF m pc ls (.int n :: st)) := by
  obtain ⟨locs, kk, nn, X, eT, N, q1, q2⟩ := S
  obtain ⟨T', h', cA, X', e', E, A, O, stp⟩ := newR X C.1 C.2.2.2.2.2.2.2 C.2.2.2.1 w1 w2 eT (g := mkF m pc ls (.int n :: st)) rfl (own_hd C hd) rfl hn hcap hb (by omega) (by omega)
  exact own_step stp (k T' h' _ cA ⟨_, _, _, X', e', N, by omega, by omega⟩ rfl E (Arv.new A hn) O)
theorem own_aaload (C : own_Cx p s m meth c Z own cd maxL ret nm) (S : own_S p l e R s m args below meth c n0 T h cells slots) {a : Addr} {ka : ClassId} {ty : FieldType} {N j : Int32} {vs : List Value} {dv : Value} (FF : Arv Z h a ka ty N vs dv) (hty : ty.isReference = true) (hin : ¬ j < 0 ∧ j < N) (v : Value) (hv : vs.getD j.toNatClampNeg dv = v) (hd : decode cd pc = .ok (.aaload, 1)) (k : own_Go p e below s n0 F kc ks T (mkF m (pc + 1) ls (v :: st))) : own_Go p e below s n0 F kc ks T (mkF m pc ls (.int j :: .ref a :: st)) := by
  obtain ⟨locs, kk, nn, X, eT, -⟩ := S
  obtain ⟨cl, A, -, sz, hN, H, -⟩ := FF
  exact own_step (fun t k => X.aaload C.1 (by rw [eT]; exact A.1) (State.isArrayOf_alike C.2.2.2.2.2.2.2.alike A.2.1) hty A.2.2 (inb_of sz hin) (Has.at H (inb_of sz hin) hv) (g := mkF m pc ls (.int j :: .ref a :: st)) rfl rfl (own_hd C hd) t k) k
theorem own_aastore (C : own_Cx p s m meth c Z own cd maxL ret nm) (S : own_S p l e R s m args below meth c n0 T h cells slots) {a y : Addr} {ka : ClassId} {Cl : String} {N j : Int32} {vs : List Value} {dv : Value} (FF : Arv Z h a ka (.object Cl) N vs dv) (O : Ovr Z ka Cl) (I : Ins Z h y Cl true) (hin : ¬ j < 0 ∧ j < N) (i : Nat) (hj : j.toNatClampNeg = i) (hi : i < vs.length) (hge : n0 ≤ a) (hd : decode cd pc = .ok (.aastore, 1))
    (k : ∀ T' h', own_S p l e R s m args below meth c n0 T' h' cells slots → Wr h h' a j.toNatClampNeg (.ref y) → Arv Z h' a ka (.object Cl) N (vs.set i (.ref y)) dv → own_Go p e below s n0 F kc ks T' (mkF m (pc + 1) ls st)) : own_Go p e below s n0 F kc ks T (mkF m pc ls (.ref y :: .int j :: .ref a :: st)) := by
  obtain ⟨locs, kk, nn, X, eT, N, q1, q2⟩ := S
  obtain ⟨cl, A, ck, sz, hN, H, G⟩ := FF
  obtain ⟨T', h', X', e', W, stp⟩ := stR X C.1 C.2.2.2.2.2.2.2 eT A (inb_of sz hin) rfl (Sto.ofV A ck O I) (g := mkF m pc ls (.ref y :: .int j :: .ref a :: st)) rfl rfl (own_hd C hd)
  exact own_step stp (k T' h' ⟨_, _, _, X', e', Fr.snoc X' N hge, q1, q2⟩ W (Arv.set A ck sz hN H G rfl W i hj hi))
theorem own_cast (C : own_Cx p s m meth c Z own cd maxL ret nm) (S : own_S p l e R s m args below meth c n0 T h cells slots) {index : Nat} {K : String} {a : Addr} (w : (Jvm.Cond.classLink own index K).before a0 Z = true) (FF : Ins Z h a K true) (hd : decode cd pc = .ok (.checkcast index, 3))
    (k : ∀ T', own_S p l e R s m args below meth c n0 T' h cells slots → own_Go p e below s n0 F kc ks T' (mkF m (pc + 3) ls (.ref a :: st))) : own_Go p e below s n0 F kc ks T (mkF m pc ls (.ref a :: st)) := by
  obtain ⟨locs, kk, nn, X, eT, N, q1, q2⟩ := S
  obtain ⟨T', X', e', stp⟩ := castY X C.1 C.2.2.2.2.2.2.2 C.2.2.2.1 w eT FF (g := mkF m pc ls (.ref a :: st)) rfl rfl (own_hd C hd)
  exact own_step stp (k T' ⟨_, _, _, X', e', N, q1, q2⟩)
theorem own_inst (C : own_Cx p s m meth c Z own cd maxL ret nm) (S : own_S p l e R s m args below meth c n0 T h cells slots) {index : Nat} {K : String} {a : Addr} (w : (Jvm.Cond.classLink own index K).before a0 Z = true) (FF : Ins Z h a K true) (hd : decode cd pc = .ok (.instanceof index, 3))
    (k : ∀ T', own_S p l e R s m args below meth c n0 T' h cells slots → own_Go p e below s n0 F kc ks T' (mkF m (pc + 3) ls (.int 1 :: st))) : own_Go p e below s n0 F kc ks T (mkF m pc ls (.ref a :: st)) := by
  obtain ⟨locs, kk, nn, X, eT, N, q1, q2⟩ := S
  obtain ⟨T', X', e', stp⟩ := instY X C.1 C.2.2.2.2.2.2.2 C.2.2.2.1 w eT FF (g := mkF m pc ls (.ref a :: st)) rfl rfl (own_hd C hd)
  exact own_step stp (k T' ⟨_, _, _, X', e', N, q1, q2⟩)
/-! the end -/
theorem own_ret {t : FieldType} (C : own_Cx p s m meth c Z own cd maxL (some t) nm) (S : own_S p l e R s m args below meth c n0 T h cells slots) {i : Instr} {w : Value} (hd : decode cd pc = .ok (i, 1)) (hn : narrow t w = w)
    (hi : (i = .ireturn ∧ (t = .int ∨ t = .boolean ∨ t = .byte ∨ t = .char ∨ t = .short) ∧ ∃ z, w = .int z) ∨ (i = .lreturn ∧ t = .long ∧ ∃ z, w = .long z) ∨ (i = .dreturn ∧ t = .double ∧ ∃ z, w = .double z) ∨ (i = .freturn ∧ t = .float ∧ ∃ z, w = .float z) ∨ (i = .areturn ∧ t.isReference = true ∧ w.isRef = true))
    (hc : cells ≤ kc) (hs : slots ≤ ks) (hF : F (some w) h) : own_Go p e below s n0 F kc ks T (mkF m pc ls (w :: st)) := by
  obtain ⟨locs, kk, nn, X, eT, N, q1, q2⟩ := S
  obtain ⟨fs, hr, hrun, hended, hW, hsame⟩ := X.leave (v := some w) (fun q => by rw [C.2.2.2.2.2.1] at q; cases q) C.2.2.2.2.2.2.1
  refine ⟨_, _, retOut X C.1 C.2.2.2.2.2.1 hn hi (own_hd C hd) hr, hrun, hended, _, _, rfl, ⟨?_, N⟩, ⟨_, rfl⟩, hW, hsame.mono (Nat.le_trans q1 hc) (Nat.le_trans q2 hs)⟩
  show F (some w) T.heap
  rw [eT]; exact hF
theorem own_retI (C : own_Cx p s m meth c Z own cd maxL (some .int) nm) (S : own_S p l e R s m args below meth c n0 T h cells slots) {z : Int32} (hd : decode cd pc = .ok (.ireturn, 1)) (hc : cells ≤ kc) (hs : slots ≤ ks) (hF : F (some (.int z)) h) : own_Go p e below s n0 F kc ks T (mkF m pc ls (.int z :: st)) :=
  own_ret C S hd rfl (Or.inl ⟨rfl, Or.inl rfl, z, rfl⟩) hc hs hF
theorem own_retZ (C : own_Cx p s m meth c Z own cd maxL (some .boolean) nm) (S : own_S p l e R s m args below meth c n0 T h cells slots) {z : Int32} (hd : decode cd pc = .ok (.ireturn, 1)) (hz : z &&& 1 = z) (hc : cells ≤ kc) (hs : slots ≤ ks) (hF : F (some (.int z)) h) : own_Go p e below s n0 F kc ks T (mkF m pc ls (.int z :: st)) :=
  own_ret C S hd (by show Value.int (z &&& 1) = _; rw [hz]) (Or.inl ⟨rfl, Or.inr (Or.inl rfl), z, rfl⟩) hc hs hF
theorem own_retC (C : own_Cx p s m meth c Z own cd maxL (some .char) nm) (S : own_S p l e R s m args below meth c n0 T h cells slots) {z : Int32} (hd : decode cd pc = .ok (.ireturn, 1)) (hz : z.toUInt32.toUInt16.toUInt32.toInt32 = z) (hc : cells ≤ kc) (hs : slots ≤ ks) (hF : F (some (.int z)) h) : own_Go p e below s n0 F kc ks T (mkF m pc ls (.int z :: st)) :=
  own_ret C S hd (by show Value.int (z.toUInt32.toUInt16.toUInt32.toInt32) = _; rw [hz]) (Or.inl ⟨rfl, by simp, z, rfl⟩) hc hs hF
theorem own_retA {t : FieldType} (C : own_Cx p s m meth c Z own cd maxL (some t) nm) (S : own_S p l e R s m args below meth c n0 T h cells slots) {w : Value} (ht : t.isReference = true) (hr : w.isRef = true) (hd : decode cd pc = .ok (.areturn, 1)) (hc : cells ≤ kc) (hs : slots ≤ ks) (hF : F (some w) h) : own_Go p e below s n0 F kc ks T (mkF m pc ls (w :: st)) :=
  own_ret C S hd (by cases w <;> simp [Value.isRef] at hr <;> cases t <;> first | rfl | (simp [FieldType.isReference] at ht)) (by simp [ht, hr]) hc hs hF
theorem own_retD (C : own_Cx p s m meth c Z own cd maxL (some .double) nm) (S : own_S p l e R s m args below meth c n0 T h cells slots) {z : UInt64} (hd : decode cd pc = .ok (.dreturn, 1)) (hc : cells ≤ kc) (hs : slots ≤ ks) (hF : F (some (.double z)) h) : own_Go p e below s n0 F kc ks T (mkF m pc ls (.double z :: st)) :=
  own_ret C S hd rfl (by simp) hc hs hF
theorem own_retV (C : own_Cx p s m meth c Z own cd maxL none nm) (S : own_S p l e R s m args below meth c n0 T h cells slots) (hd : decode cd pc = .ok (.return_, 1)) (hc : cells ≤ kc) (hs : slots ≤ ks) (hF : F none h) : own_Go p e below s n0 F kc ks T (mkF m pc ls []) := by
  obtain ⟨locs, kk, nn, X, eT, N, q1, q2⟩ := S
  obtain ⟨fs, hr, hrun, hended, hW, hsame⟩ := X.leave (v := none) (fun _ => rfl) C.2.2.2.2.2.2.1
  refine ⟨_, _, X.returnOut C.1 C.2.2.2.2.2.1 (own_hd C hd) hr, hrun, hended, _, _, rfl, ⟨?_, N⟩, ⟨_, rfl⟩, hW, hsame.mono (Nat.le_trans q1 hc) (Nat.le_trans q2 hs)⟩
  show F none T.heap
  rw [eT]; exact hF
/-! contracts -/
def own_Met (l : Launch) (Z : State) (y : MethodName) (cd : ByteArray) (maxL : Nat) (ret : Option FieldType) (rm : Room) (n0 : Nat) (as' : Array Value) (h0 : Heap) (Q : Option Value → Heap → Prop) : Prop :=
  ∀ ws, MetFree l y (head1 (Jvm.Cond.code y cd maxL ret :: ws) rm) (fun a U => a = as' ∧ Z.Warmed39 U.vm ∧ U.heap = h0) (fun _ _ _ _ _ => True) (fun _ U o U' => ∃ v L, o = .returned v ∧ (Q v U'.heap ∧ Fr n0 L) ∧ FrameEnd U o U' L rm.cells rm.slots)
theorem own_met {y : MethodName} {rm : Room} {as' : Array Value} {h0 : Heap} {Q : Option Value → Heap → Prop} (hp : plainFor y = true) (ls : Array Slot) (hef : ∀ m, entryFrame m as' maxL = mkF m 0 ls [])
    (H : ∀ (p : Program) (e : Env) (s : State) (m : MethodId) (below : List Frame) (meth : Method) (c : Code) (T : State), own_Cx p s m meth c Z y.cls cd maxL ret y.name → own_S p l e rm s m as' below meth c n0 T h0 0 0 → own_Go p e below s n0 Q rm.cells rm.slots T (mkF m 0 ls [])) : own_Met l Z y cd maxL ret rm n0 as' h0 Q := by
  intro ws
  refine MetFree.of_bodySF hp hisR ?_
  intro p e s m args below meth c s₁ Bd hml hP hK
  obtain ⟨rfl, hZ, hh⟩ := hP
  have e0 : s₁.heap = h0 := by rw [← hh, Bd.state]; rfl
  have G := H p e s m below meth c s₁ ⟨Bd.exec, Bd.bytes, hml, findClass_of_methodNamed Bd.named, (name_of_methodNamed Bd.named Bd.method).1, Bd.returns, BodyLoose.notSynchronized Bd, hZ⟩ ⟨_, _, _, Stand.of_body Bd, e0, Fr.nil n0, Nat.le_refl _, Nat.le_refl _⟩
  rw [← hef m] at G
  exact G
/-! calls -/
/-- who pays a call -/
abbrev own_Pay (l : Launch) (R : Room) (p : Program) (e : Env) (below : List Frame) (s : State) (args : Array Value) (y : MethodName) (len W : Nat) (as' : Array Value) (h : Heap) (k1 k2 : Nat) (Q : Option Value → Heap → List Loc → Prop) : Prop :=
  Back l R p e below s args y len W (fun P a => a = as' ∧ P.U.heap = h ∧ P.cells + k1 ≤ R.cells ∧ P.slots + k2 ≤ R.slots) (fun P _ v B => ∃ L, Q v B.U.heap L ∧ B.locs = P.locs ++ L ∧ B.cells = P.cells + k1 ∧ B.slots = P.slots + k2)
theorem own_Met.pay {y : MethodName} {cdy : ByteArray} {maxy : Nat} {rety : Option FieldType} {rm : Room} {as' : Array Value} {Q : Option Value → Heap → Prop} (M : own_Met l Z y cdy maxy rety rm n0 as' h Q) (C : own_Cx p s m meth c Z own cd maxL ret nm) {len : Nat} (W : Nat) (wc : (Jvm.Cond.code y cdy maxy rety).before a0 Z = true) (wz : (Jvm.Cond.initialized y.cls).before a0 Z = true) (hf : rm.frames + 1 ≤ R.frames) (hl : W + (maxy + 11) + rm.locals ≤ R.locals) :
    own_Pay l R p e below s args y len W as' h rm.cells rm.slots (fun v h' L => Q v h' ∧ Fr n0 L) := backOf (Q := fun v h' L => Q v h' ∧ Fr n0 L) (M []) C.2.2.2.2.2.2.2 wc wz hf hl
theorem own_callS (C : own_Cx p s m meth c Z own cd maxL ret nm) (S : own_S p l e R s m args below meth c n0 T h cells slots) {y : MethodName} {index : Nat} {cdy : ByteArray} {maxy : Nat} {rety : Option FieldType} {W k1 k2 : Nat} {as' : Array Value} {Q : Option Value → Heap → List Loc → Prop}
    (w1 : (Jvm.Cond.methodLink own index y).before a0 Z = true) (w2 : (Jvm.Cond.static y).before a0 Z = true) (w3 : (Jvm.Cond.initialized y.cls).before a0 Z = true) (w4 : (Jvm.Cond.code y cdy maxy rety).before a0 Z = true) (hy : y.cls ≠ "java/lang/invoke/MethodHandle" ∧ y.cls ≠ "java/lang/invoke/VarHandle")
    (hK : own_Pay l R p e below s args y 3 W as' h k1 k2 Q) (hfr : ∀ v h' L, Q v h' L → Fr n0 L) (argsL rest : List Value) {ps : List FieldType} {rr : Option FieldType} (has : argsL.toArray = as') (hpd : parseMethodDescriptor y.desc = some ⟨ps, rr⟩) (hlen : argsL.length = ps.length) (hstk : st = argsL.reverse ++ rest) (hsz : ls.size = maxL) (hW : (rest.map fun v => v.category).sum ≤ W)
    (hc : cells + k1 ≤ R.cells) (hs : slots + k2 ≤ R.slots) (hd : decode cd pc = .ok (.invokestatic index, 3))
    (k : ∀ T' h' v L, own_S p l e R s m args below meth c n0 T' h' (cells + k1) (slots + k2) → Q v h' L → own_Go p e below s n0 F kc ks T' (mkF m (pc + 3) ls (v.toList ++ rest))) : own_Go p e below s n0 F kc ks T (mkF m pc ls st) := by
  obtain ⟨locs, kk, nn, X, eT, N, q1, q2⟩ := S
  have hZ := C.2.2.2.2.2.2.2
  obtain ⟨v, vm1, B, -, X', ⟨L, hQ, l1, l2, l3⟩, stp⟩ := Jvm.LawKit.callS X C.1 C.2.2.2.1 (mvT hZ w1) (mvT hZ w2) (mvT hZ w3) (mvT hZ w4) hy hK (g := mkF m pc ls st) rfl (own_hsz C hsz) (argsL := argsL) (rest := rest) (lenOf hpd hlen) hstk (by show 2 * 0 + _ ≤ W; omega) (own_hd C hd) (fun _ _ => ⟨has, eT, by show kk + k1 ≤ _; omega, by show nn + k2 ≤ _; omega⟩)
  refine own_step stp (k B.U _ v L ⟨B.locs, B.cells, B.slots, X', rfl, ?_, ?_, ?_⟩ hQ)
  · rw [l1]; exact Fr.app N (hfr _ _ _ hQ)
  · rw [l2]; show kk + k1 ≤ _; omega
  · rw [l3]; show nn + k2 ≤ _; omega
theorem own_callI (C : own_Cx p s m meth c Z own cd maxL ret nm) (S : own_S p l e R s m args below meth c n0 T h cells slots) {y : MethodName} {index : Nat} {cdy : ByteArray} {maxy : Nat} {W k1 k2 : Nat} {as' : Array Value} {Q : Option Value → Heap → List Loc → Prop}
    (hy1 : y.name = "<init>") (w1 : (Jvm.Cond.methodLink own index y).before a0 Z = true) (w2 : (Jvm.Cond.instanceMethod y).before a0 Z = true) (w4 : (Jvm.Cond.code y cdy maxy none).before a0 Z = true) (hy : y.cls ≠ "java/lang/invoke/MethodHandle" ∧ y.cls ≠ "java/lang/invoke/VarHandle")
    (hK : own_Pay l R p e below s args y 3 W as' h k1 k2 Q) (hfr : ∀ v h' L, Q v h' L → Fr n0 L) {a : Addr} (argsL rest : List Value) {ps : List FieldType} {rr : Option FieldType} (has : (.ref a :: argsL).toArray = as') (hpd : parseMethodDescriptor y.desc = some ⟨ps, rr⟩) (hlen : argsL.length = ps.length) (hstk : st = argsL.reverse ++ .ref a :: rest) (hsz : ls.size = maxL) (hW : (rest.map fun v => v.category).sum ≤ W)
    (hc : cells + k1 ≤ R.cells) (hs : slots + k2 ≤ R.slots) (hd : decode cd pc = .ok (.invokespecial index, 3))
    (k : ∀ T' h' v L, own_S p l e R s m args below meth c n0 T' h' (cells + k1) (slots + k2) → Q v h' L → own_Go p e below s n0 F kc ks T' (mkF m (pc + 3) ls (v.toList ++ rest))) : own_Go p e below s n0 F kc ks T (mkF m pc ls st) := by
  obtain ⟨locs, kk, nn, X, eT, N, q1, q2⟩ := S
  have hZ := C.2.2.2.2.2.2.2
  obtain ⟨v, vm1, B, -, X', ⟨L, hQ, l1, l2, l3⟩, stp⟩ := X.specialBack C.1 hy1 C.2.2.2.1 (mvT hZ w1) (mvT hZ w2) (mvT hZ w4) hy hK (g := mkF m pc ls st) rfl (own_hsz C hsz) (Steps.refl _) (a := a) (argsL := argsL) (rest := rest) (lenOf hpd hlen) hstk (by show 2 * 0 + _ ≤ W; omega) (own_hd C hd) (fun _ _ => ⟨has, eT, by show kk + k1 ≤ _; omega, by show nn + k2 ≤ _; omega⟩)
  refine own_step (fun t k => stp.trans k) (k B.U _ v L ⟨B.locs, B.cells, B.slots, X', rfl, ?_, ?_, ?_⟩ hQ)
  · rw [l1]; exact Fr.app N (hfr _ _ _ hQ)
  · rw [l2]; show kk + k1 ≤ _; omega
  · rw [l3]; show nn + k2 ≤ _; omega
theorem own_callV (C : own_Cx p s m meth c Z own cd maxL ret nm) (S : own_S p l e R s m args below meth c n0 T h cells slots) {y z : MethodName} {Cl : String} {index : Nat} {W k1 k2 : Nat} {as' : Array Value} {Q : Option Value → Heap → List Loc → Prop}
    (w1 : (Jvm.Cond.methodLink own index y).before a0 Z = true) (w2 : (Jvm.Cond.declares y).before a0 Z = true) (w3 : (Jvm.Cond.selects Cl y z).before a0 Z = true) {Cl' : String} (w3' : (Jvm.Cond.selects Cl' y y).before a0 Z = true) (w4 : (Jvm.Cond.instanceMethod z).before a0 Z = true) (hy : y.cls ≠ "java/lang/invoke/MethodHandle" ∧ y.cls ≠ "java/lang/invoke/VarHandle")
    (hK : own_Pay l R p e below s args z 3 W as' h k1 k2 Q) (hfr : ∀ v h' L, Q v h' L → Fr n0 L) {a : Addr} (E : Exa Z h a Cl) (argsL rest : List Value) {ps : List FieldType} {rr : Option FieldType} (has : (.ref a :: argsL).toArray = as') (hpd : parseMethodDescriptor y.desc = some ⟨ps, rr⟩) (hlen : argsL.length = ps.length) (hstk : st = argsL.reverse ++ .ref a :: rest) (hsz : ls.size = maxL) (hW : (rest.map fun v => v.category).sum ≤ W)
    (hc : cells + k1 ≤ R.cells) (hs : slots + k2 ≤ R.slots) (hd : decode cd pc = .ok (.invokevirtual index, 3))
    (k : ∀ T' h' v L, own_S p l e R s m args below meth c n0 T' h' (cells + k1) (slots + k2) → Q v h' L → own_Go p e below s n0 F kc ks T' (mkF m (pc + 3) ls (v.toList ++ rest))) : own_Go p e below s n0 F kc ks T (mkF m pc ls st) := by
  obtain ⟨locs, kk, nn, X, eT, N, q1, q2⟩ := S
  have hZ := C.2.2.2.2.2.2.2
  obtain ⟨cq, kq, qa, qb, qc⟩ := isOf (T := T) hZ eT E
  obtain ⟨v, vm1, B, -, X', ⟨L, hQ, l1, l2, l3⟩, stp⟩ := X.virtualBack C.1 C.2.2.2.1 (mvT hZ w1) (mvT hZ w2) (notFace_of_selects (args := #[]) (mvT hZ w3')) (mvT hZ w3) (mvT hZ w4) hy hK qa qc (g := mkF m pc ls st) rfl (own_hsz C hsz) (Steps.refl _) (argsL := argsL) (rest := rest) (lenOf hpd hlen) hstk (by show 2 * 0 + _ ≤ W; omega) (own_hd C hd) (fun _ _ => ⟨has, eT, by show kk + k1 ≤ _; omega, by show nn + k2 ≤ _; omega⟩)
  refine own_step (fun t k => stp.trans k) (k B.U _ v L ⟨B.locs, B.cells, B.slots, X', rfl, ?_, ?_, ?_⟩ hQ)
  · rw [l1]; exact Fr.app N (hfr _ _ _ hQ)
  · rw [l2]; show kk + k1 ≤ _; omega
  · rw [l3]; show nn + k2 ≤ _; omega
theorem own_callP (C : own_Cx p s m meth c Z own cd maxL ret nm) (S : own_S p l e R s m args below meth c n0 T h cells slots) {y : MethodName} {index : Nat} {cdy : ByteArray} {maxy : Nat} {rety : Option FieldType} {W k1 k2 : Nat} {as' : Array Value} {Q : Option Value → Heap → List Loc → Prop}
    (w1 : (Jvm.Cond.methodLink own index y).before a0 Z = true) (w2 : (Jvm.Cond.instanceMethod y).before a0 Z = true) (w3 : (Jvm.Cond.selects y.cls y y).before a0 Z = true) (w4 : (Jvm.Cond.privateMethod y).before a0 Z = true) (w5 : (Jvm.Cond.code y cdy maxy rety).before a0 Z = true) (hy : y.cls ≠ "java/lang/invoke/MethodHandle" ∧ y.cls ≠ "java/lang/invoke/VarHandle")
    (hK : own_Pay l R p e below s args y 3 W as' h k1 k2 Q) (hfr : ∀ v h' L, Q v h' L → Fr n0 L) {a : Addr} {Cl : String} (E : Exa Z h a Cl) (argsL rest : List Value) {ps : List FieldType} {rr : Option FieldType} (has : (.ref a :: argsL).toArray = as') (hpd : parseMethodDescriptor y.desc = some ⟨ps, rr⟩) (hlen : argsL.length = ps.length) (hstk : st = argsL.reverse ++ .ref a :: rest) (hsz : ls.size = maxL) (hW : (rest.map fun v => v.category).sum ≤ W)
    (hc : cells + k1 ≤ R.cells) (hs : slots + k2 ≤ R.slots) (hd : decode cd pc = .ok (.invokevirtual index, 3))
    (k : ∀ T' h' v L, own_S p l e R s m args below meth c n0 T' h' (cells + k1) (slots + k2) → Q v h' L → own_Go p e below s n0 F kc ks T' (mkF m (pc + 3) ls (v.toList ++ rest))) : own_Go p e below s n0 F kc ks T (mkF m pc ls st) := by
  obtain ⟨locs, kk, nn, X, eT, N, q1, q2⟩ := S
  have hZ := C.2.2.2.2.2.2.2
  obtain ⟨cl, hcl, hns⟩ := E.cell
  obtain ⟨v, vm1, B, -, X', ⟨L, hQ, l1, l2, l3⟩, stp⟩ := X.privateBack C.1 C.2.2.2.1 (mvT hZ w1) (mvT hZ w2) (mvT hZ w3) (Cond.privateMethod_at (mvP (args := args) hZ w4)) (mvT hZ w5) hy hK (g := mkF m pc ls st) rfl (own_hsz C hsz) (Steps.refl _) (a := a) (cell := cl) (by rw [eT]; exact hcl) hns (argsL := argsL) (rest := rest) (lenOf hpd hlen) hstk (by show 2 * 0 + _ ≤ W; omega) (own_hd C hd) (fun _ _ => ⟨has, eT, by show kk + k1 ≤ _; omega, by show nn + k2 ≤ _; omega⟩)
  refine own_step (fun t k => stp.trans k) (k B.U _ v L ⟨B.locs, B.cells, B.slots, X', rfl, ?_, ?_, ?_⟩ hQ)
  · rw [l1]; exact Fr.app N (hfr _ _ _ hQ)
  · rw [l2]; show kk + k1 ≤ _; omega
  · rw [l3]; show nn + k2 ≤ _; omega
theorem own_callF (C : own_Cx p s m meth c Z own cd maxL ret nm) (S : own_S p l e R s m args below meth c n0 T h cells slots) {y z : MethodName} {Cl : String} {index count : Nat} {W k1 k2 : Nat} {as' : Array Value} {Q : Option Value → Heap → List Loc → Prop}
    (w1 : (Jvm.Cond.methodLink own index y).before a0 Z = true) (w2 : (Jvm.Cond.declares y).before a0 Z = true) (w3 : (Jvm.Cond.interfaceMethod y.cls y.cls y.name y.desc).before a0 Z = true) (hfa : ((Jvm.Cond.interfaceMethod y.cls y.cls y.name y.desc).onTables && (Jvm.Cond.interfaceMethod y.cls y.cls y.name y.desc).keepsFace) = true) (w4 : (Jvm.Cond.selects Cl y z).before a0 Z = true) (w5 : (Jvm.Cond.instanceMethod z).before a0 Z = true) (w6 : (Jvm.Cond.publicMethod z).before a0 Z = true) (w7 : (Jvm.Cond.unhidden Cl y.name y.desc).before a0 Z = true) (w8 : (Jvm.Cond.castable Cl y.cls).before a0 Z = true) (hy : y.cls ≠ "java/lang/invoke/MethodHandle" ∧ y.cls ≠ "java/lang/invoke/VarHandle")
    (hK : own_Pay l R p e below s args z 5 W as' h k1 k2 Q) (hfr : ∀ v h' L, Q v h' L → Fr n0 L) {a : Addr} (E : Exa Z h a Cl) (argsL rest : List Value) {ps : List FieldType} {rr : Option FieldType} (has : (.ref a :: argsL).toArray = as') (hpd : parseMethodDescriptor y.desc = some ⟨ps, rr⟩) (hlen : argsL.length = ps.length) (hstk : st = argsL.reverse ++ .ref a :: rest) (hsz : ls.size = maxL) (hW : (rest.map fun v => v.category).sum ≤ W)
    (hc : cells + k1 ≤ R.cells) (hs : slots + k2 ≤ R.slots) (hd : decode cd pc = .ok (.invokeinterface index count, 5))
    (k : ∀ T' h' v L, own_S p l e R s m args below meth c n0 T' h' (cells + k1) (slots + k2) → Q v h' L → own_Go p e below s n0 F kc ks T' (mkF m (pc + 5) ls (v.toList ++ rest))) : own_Go p e below s n0 F kc ks T (mkF m pc ls st) := by
  obtain ⟨locs, kk, nn, X, eT, N, q1, q2⟩ := S
  have hZ := C.2.2.2.2.2.2.2
  obtain ⟨cq, kq, qa, qb, qc⟩ := isOf (T := T) hZ eT E
  obtain ⟨v, vm1, B, -, X', ⟨L, hQ, l1, l2, l3⟩, stp⟩ := X.interfaceBack C.1 C.2.2.2.1 (mvT hZ w1) (mvT hZ w2) (mvT hZ w3 hfa) (mvT hZ w4) (mvT hZ w5) (mvT hZ w6) (mvT hZ w7) (mvT hZ w8) hy hK qa qb qc (g := mkF m pc ls st) rfl (own_hsz C hsz) (Steps.refl _) (argsL := argsL) (rest := rest) (lenOf hpd hlen) hstk (by show 2 * 0 + _ ≤ W; omega) (own_hd C hd) (fun _ _ => ⟨has, eT, by show kk + k1 ≤ _; omega, by show nn + k2 ≤ _; omega⟩)
  refine own_step (fun t k => stp.trans k) (k B.U _ v L ⟨B.locs, B.cells, B.slots, X', rfl, ?_, ?_, ?_⟩ hQ)
  · rw [l1]; exact Fr.app N (hfr _ _ _ hQ)
  · rw [l2]; show kk + k1 ≤ _; omega
  · rw [l3]; show nn + k2 ≤ _; omega
end OwnKit
set_option maxRecDepth 65536 in
set_option maxHeartbeats 40000000 in
theorem own_rec (l : Launch) (Z : State) (a0 : Array Value) (hw : ∀ d ∈ tables_1, d.before a0 Z = true) (a : Addr) (h0 : Heap) (n0 : Nat) (z0 : n0 ≤ h0.size) :
    own_Met l Z (⟨"java/lang/Record", "<init>", "()V"⟩ : MethodName) jdk_30_method_1_code 1 none ({ frames := 1, cells := 0, slots := 0, locals := 12 } : Room) n0 #[(.ref a)] h0 (fun v h => v = none ∧ h = h0) := by
  refine own_met (by decide +kernel) #[.val (.ref a)] (fun m => by first | rfl | (simp [entryFrame, mkF, argsToLocals, Value.category]; done)) ?_
  intro p e s m below meth c T0 C S0
  refine own_seg C S0 [(0, .aload_n 0, 1)] (by decide +kernel) 1 #[.val (.ref a)] [(.ref a)] rfl ?_
  refine own_initO C S0 (own_wd hw 15 rfl) (own_wd hw 16 rfl) (own_wd hw 17 rfl) rfl (by decide +kernel) (by decide) 0 (Nat.le_of_ble_eq_true rfl) (by decide) ?_
  intro T1 S2
  refine own_retV C S2 (by decide +kernel) (by decide) (by decide) ?_
  exact ⟨rfl, rfl⟩
theorem own_pd0 : parseMethodDescriptor "()V" = some ⟨[], none⟩ := by decide +kernel
set_option maxRecDepth 65536 in
set_option maxHeartbeats 40000000 in
theorem own_ini (l : Launch) (Z : State) (a0 : Array Value) (hw : ∀ d ∈ tables_1, d.before a0 Z = true) (a : Addr) (x1 : Int32) (x2 : UInt64) (x3 : Int32) (x4 : Int32) (x5 : UInt64) (h0 : Heap) (n0 : Nat) (z0 : n0 ≤ h0.size) (ge_a : n0 ≤ a) (pE : Exa Z h0 a "com/example/answer_by_role/answerbyrole/engine/ranking/RegressionTree$Node") (p_measure : Fld Z h0 a "com/example/answer_by_role/answerbyrole/engine/ranking/RegressionTree$Node" "measure" "I" (.int (0 : Int32))) (p_threshold : Fld Z h0 a "com/example/answer_by_role/answerbyrole/engine/ranking/RegressionTree$Node" "threshold" "D" (.double 0)) (p_below : Fld Z h0 a "com/example/answer_by_role/answerbyrole/engine/ranking/RegressionTree$Node" "below" "I" (.int (0 : Int32))) (p_above : Fld Z h0 a "com/example/answer_by_role/answerbyrole/engine/ranking/RegressionTree$Node" "above" "I" (.int (0 : Int32))) (p_score : Fld Z h0 a "com/example/answer_by_role/answerbyrole/engine/ranking/RegressionTree$Node" "score" "D" (.double 0)) :
    own_Met l Z (⟨"com/example/answer_by_role/answerbyrole/engine/ranking/RegressionTree$Node", "<init>", "(IDIID)V"⟩ : MethodName) prog_29_method_1_code 8 none ({ frames := 2, cells := 0, slots := 0, locals := 24 } : Room) n0 #[(.ref a), (.int x1), (.double x2), (.int x3), (.int x4), (.double x5)] h0 (fun v h => v = none ∧ Keep h0 h [a] ∧ Exa Z h a "com/example/answer_by_role/answerbyrole/engine/ranking/RegressionTree$Node" ∧ Fld Z h a "com/example/answer_by_role/answerbyrole/engine/ranking/RegressionTree$Node" "measure" "I" (.int x1) ∧ Fld Z h a "com/example/answer_by_role/answerbyrole/engine/ranking/RegressionTree$Node" "threshold" "D" (.double x2) ∧ Fld Z h a "com/example/answer_by_role/answerbyrole/engine/ranking/RegressionTree$Node" "below" "I" (.int x3) ∧ Fld Z h a "com/example/answer_by_role/answerbyrole/engine/ranking/RegressionTree$Node" "above" "I" (.int x4) ∧ Fld Z h a "com/example/answer_by_role/answerbyrole/engine/ranking/RegressionTree$Node" "score" "D" (.double x5)) := by
  refine own_met (by decide +kernel) #[.val (.ref a), .val (.int x1), .val (.double x2), .second, .val (.int x3), .val (.int x4), .val (.double x5), .second] (fun m => by first | rfl | (simp [entryFrame, mkF, argsToLocals, Value.category]; done)) ?_
  intro p e s m below meth c T0 C S0
  refine own_seg C S0 [(0, .aload_n 0, 1)] (by decide +kernel) 1 #[.val (.ref a), .val (.int x1), .val (.double x2), .second, .val (.int x3), .val (.int x4), .val (.double x5), .second] [(.ref a)] rfl ?_
  refine own_callI C S0 rfl (own_wd hw 10 rfl) (own_wd hw 11 rfl) (own_wd hw 14 rfl) (by decide) (own_Met.pay (own_rec l Z a0 hw a h0 n0 z0) C 0 (own_wd hw 14 rfl) (own_wd hw 13 rfl) (by decide) (by decide)) (fun _ _ _ q => q.2) [] [] rfl own_pd0 rfl rfl rfl (Nat.le_of_ble_eq_true rfl) (by decide) (by decide) (by decide +kernel) ?_
  rintro T4 h5 v6 L7 S8 ⟨⟨rfl, e3⟩, -⟩
  replace S8 : own_S p l e ({ frames := 2, cells := 0, slots := 0, locals := 24 } : Room) s m #[(.ref a), (.int x1), (.double x2), (.int x3), (.int x4), (.double x5)] below meth c n0 T4 h5 0 0 := S8
  rw [e3] at S8; clear e3
  show own_Go p e below s n0 _ _ _ T4 (mkF m 4 #[.val (.ref a), .val (.int x1), .val (.double x2), .second, .val (.int x3), .val (.int x4), .val (.double x5), .second] [])
  refine own_seg C S8 [(4, .aload_n 0, 1), (5, .iload_n 1, 1)] (by decide +kernel) 6 #[.val (.ref a), .val (.int x1), .val (.double x2), .second, .val (.int x3), .val (.int x4), .val (.double x5), .second] [(.int x1), (.ref a)] rfl ?_
  refine own_putF C S8 (ty := .int) (host := "") (Or.inl (own_wd hw 18 rfl)) Via.refl p_measure pE (Or.inr ⟨(own_wd hw 19 rfl), rfl, rfl⟩) (own_wd hw 6 rfl) (by decide) rfl rfl ge_a (by decide +kernel) ?_
  intro T9 h11 S10 W12
  have f13 : Fld Z h11 a "com/example/answer_by_role/answerbyrole/engine/ranking/RegressionTree$Node" "measure" "I" (.int x1) := Fld.same W12 p_measure
  refine own_seg C S10 [(9, .aload_n 0, 1), (10, .dload_n 2, 1)] (by decide +kernel) 11 #[.val (.ref a), .val (.int x1), .val (.double x2), .second, .val (.int x3), .val (.int x4), .val (.double x5), .second] [(.double x2), (.ref a)] rfl ?_
  have f14 : Fld Z h11 a "com/example/answer_by_role/answerbyrole/engine/ranking/RegressionTree$Node" "threshold" "D" (.double 0) := (Fld.other W12 p_threshold (Or.inr (slot_ne (t := .double) (t' := .int) (Or.inr (own_wd hw 21 rfl)) (Or.inr (own_wd hw 19 rfl)) (by decide) (by decide) (by decide))))
  have f15 : Exa Z h11 a "com/example/answer_by_role/answerbyrole/engine/ranking/RegressionTree$Node" := (Exa.wr W12 pE)
  refine own_putF C S10 (ty := .double) (host := "") (Or.inl (own_wd hw 20 rfl)) Via.refl f14 f15 (Or.inr ⟨(own_wd hw 21 rfl), rfl, rfl⟩) (own_wd hw 6 rfl) (by decide) rfl rfl ge_a (by decide +kernel) ?_
  intro T16 h18 S17 W19
  have f20 : Fld Z h18 a "com/example/answer_by_role/answerbyrole/engine/ranking/RegressionTree$Node" "threshold" "D" (.double x2) := Fld.same W19 f14
  refine own_seg C S17 [(14, .aload_n 0, 1), (15, .iload 4, 2)] (by decide +kernel) 17 #[.val (.ref a), .val (.int x1), .val (.double x2), .second, .val (.int x3), .val (.int x4), .val (.double x5), .second] [(.int x3), (.ref a)] rfl ?_
  have f21 : Fld Z h18 a "com/example/answer_by_role/answerbyrole/engine/ranking/RegressionTree$Node" "below" "I" (.int (0 : Int32)) := (Fld.other W19 (Fld.other W12 p_below (Or.inr (slot_ne (t := .int) (t' := .int) (Or.inr (own_wd hw 23 rfl)) (Or.inr (own_wd hw 19 rfl)) (by decide) (by decide) (by decide)))) (Or.inr (slot_ne (t := .int) (t' := .double) (Or.inr (own_wd hw 23 rfl)) (Or.inr (own_wd hw 21 rfl)) (by decide) (by decide) (by decide))))
  have f22 : Exa Z h18 a "com/example/answer_by_role/answerbyrole/engine/ranking/RegressionTree$Node" := (Exa.wr W19 f15)
  refine own_putF C S17 (ty := .int) (host := "") (Or.inl (own_wd hw 22 rfl)) Via.refl f21 f22 (Or.inr ⟨(own_wd hw 23 rfl), rfl, rfl⟩) (own_wd hw 6 rfl) (by decide) rfl rfl ge_a (by decide +kernel) ?_
  intro T23 h25 S24 W26
  have f27 : Fld Z h25 a "com/example/answer_by_role/answerbyrole/engine/ranking/RegressionTree$Node" "below" "I" (.int x3) := Fld.same W26 f21
  refine own_seg C S24 [(20, .aload_n 0, 1), (21, .iload 5, 2)] (by decide +kernel) 23 #[.val (.ref a), .val (.int x1), .val (.double x2), .second, .val (.int x3), .val (.int x4), .val (.double x5), .second] [(.int x4), (.ref a)] rfl ?_
  have f28 : Fld Z h25 a "com/example/answer_by_role/answerbyrole/engine/ranking/RegressionTree$Node" "above" "I" (.int (0 : Int32)) := (Fld.other W26 (Fld.other W19 (Fld.other W12 p_above (Or.inr (slot_ne (t := .int) (t' := .int) (Or.inr (own_wd hw 25 rfl)) (Or.inr (own_wd hw 19 rfl)) (by decide) (by decide) (by decide)))) (Or.inr (slot_ne (t := .int) (t' := .double) (Or.inr (own_wd hw 25 rfl)) (Or.inr (own_wd hw 21 rfl)) (by decide) (by decide) (by decide)))) (Or.inr (slot_ne (t := .int) (t' := .int) (Or.inr (own_wd hw 25 rfl)) (Or.inr (own_wd hw 23 rfl)) (by decide) (by decide) (by decide))))
  have f29 : Exa Z h25 a "com/example/answer_by_role/answerbyrole/engine/ranking/RegressionTree$Node" := (Exa.wr W26 f22)
  refine own_putF C S24 (ty := .int) (host := "") (Or.inl (own_wd hw 24 rfl)) Via.refl f28 f29 (Or.inr ⟨(own_wd hw 25 rfl), rfl, rfl⟩) (own_wd hw 6 rfl) (by decide) rfl rfl ge_a (by decide +kernel) ?_
  intro T30 h32 S31 W33
  have f34 : Fld Z h32 a "com/example/answer_by_role/answerbyrole/engine/ranking/RegressionTree$Node" "above" "I" (.int x4) := Fld.same W33 f28
  refine own_seg C S31 [(26, .aload_n 0, 1), (27, .dload 6, 2)] (by decide +kernel) 29 #[.val (.ref a), .val (.int x1), .val (.double x2), .second, .val (.int x3), .val (.int x4), .val (.double x5), .second] [(.double x5), (.ref a)] rfl ?_
  have f35 : Fld Z h32 a "com/example/answer_by_role/answerbyrole/engine/ranking/RegressionTree$Node" "score" "D" (.double 0) := (Fld.other W33 (Fld.other W26 (Fld.other W19 (Fld.other W12 p_score (Or.inr (slot_ne (t := .double) (t' := .int) (Or.inr (own_wd hw 27 rfl)) (Or.inr (own_wd hw 19 rfl)) (by decide) (by decide) (by decide)))) (Or.inr (slot_ne (t := .double) (t' := .double) (Or.inr (own_wd hw 27 rfl)) (Or.inr (own_wd hw 21 rfl)) (by decide) (by decide) (by decide)))) (Or.inr (slot_ne (t := .double) (t' := .int) (Or.inr (own_wd hw 27 rfl)) (Or.inr (own_wd hw 23 rfl)) (by decide) (by decide) (by decide)))) (Or.inr (slot_ne (t := .double) (t' := .int) (Or.inr (own_wd hw 27 rfl)) (Or.inr (own_wd hw 25 rfl)) (by decide) (by decide) (by decide))))
  have f36 : Exa Z h32 a "com/example/answer_by_role/answerbyrole/engine/ranking/RegressionTree$Node" := (Exa.wr W33 f29)
  refine own_putF C S31 (ty := .double) (host := "") (Or.inl (own_wd hw 26 rfl)) Via.refl f35 f36 (Or.inr ⟨(own_wd hw 27 rfl), rfl, rfl⟩) (own_wd hw 6 rfl) (by decide) rfl rfl ge_a (by decide +kernel) ?_
  intro T37 h39 S38 W40
  have f41 : Fld Z h39 a "com/example/answer_by_role/answerbyrole/engine/ranking/RegressionTree$Node" "score" "D" (.double x5) := Fld.same W40 f35
  refine own_retV C S38 (by decide +kernel) (by decide) (by decide) ?_
  have f42 : Exa Z h39 a "com/example/answer_by_role/answerbyrole/engine/ranking/RegressionTree$Node" := (Exa.wr W40 f36)
  have f43 : Fld Z h39 a "com/example/answer_by_role/answerbyrole/engine/ranking/RegressionTree$Node" "measure" "I" (.int x1) := (Fld.other W40 (Fld.other W33 (Fld.other W26 (Fld.other W19 f13 (Or.inr (slot_ne (t := .int) (t' := .double) (Or.inr (own_wd hw 19 rfl)) (Or.inr (own_wd hw 21 rfl)) (by decide) (by decide) (by decide)))) (Or.inr (slot_ne (t := .int) (t' := .int) (Or.inr (own_wd hw 19 rfl)) (Or.inr (own_wd hw 23 rfl)) (by decide) (by decide) (by decide)))) (Or.inr (slot_ne (t := .int) (t' := .int) (Or.inr (own_wd hw 19 rfl)) (Or.inr (own_wd hw 25 rfl)) (by decide) (by decide) (by decide)))) (Or.inr (slot_ne (t := .int) (t' := .double) (Or.inr (own_wd hw 19 rfl)) (Or.inr (own_wd hw 27 rfl)) (by decide) (by decide) (by decide))))
  have f44 : Fld Z h39 a "com/example/answer_by_role/answerbyrole/engine/ranking/RegressionTree$Node" "threshold" "D" (.double x2) := (Fld.other W40 (Fld.other W33 (Fld.other W26 f20 (Or.inr (slot_ne (t := .double) (t' := .int) (Or.inr (own_wd hw 21 rfl)) (Or.inr (own_wd hw 23 rfl)) (by decide) (by decide) (by decide)))) (Or.inr (slot_ne (t := .double) (t' := .int) (Or.inr (own_wd hw 21 rfl)) (Or.inr (own_wd hw 25 rfl)) (by decide) (by decide) (by decide)))) (Or.inr (slot_ne (t := .double) (t' := .double) (Or.inr (own_wd hw 21 rfl)) (Or.inr (own_wd hw 27 rfl)) (by decide) (by decide) (by decide))))
  have f45 : Fld Z h39 a "com/example/answer_by_role/answerbyrole/engine/ranking/RegressionTree$Node" "below" "I" (.int x3) := (Fld.other W40 (Fld.other W33 f27 (Or.inr (slot_ne (t := .int) (t' := .int) (Or.inr (own_wd hw 23 rfl)) (Or.inr (own_wd hw 25 rfl)) (by decide) (by decide) (by decide)))) (Or.inr (slot_ne (t := .int) (t' := .double) (Or.inr (own_wd hw 23 rfl)) (Or.inr (own_wd hw 27 rfl)) (by decide) (by decide) (by decide))))
  have f46 : Fld Z h39 a "com/example/answer_by_role/answerbyrole/engine/ranking/RegressionTree$Node" "above" "I" (.int x4) := (Fld.other W40 f34 (Or.inr (slot_ne (t := .int) (t' := .double) (Or.inr (own_wd hw 25 rfl)) (Or.inr (own_wd hw 27 rfl)) (by decide) (by decide) (by decide))))
  exact ⟨rfl, ((((((Keep.refl _ _).wr W12 (Or.inl (List.mem_of_getElem? (i := 0) rfl))).wr W19 (Or.inl (List.mem_of_getElem? (i := 0) rfl))).wr W26 (Or.inl (List.mem_of_getElem? (i := 0) rfl))).wr W33 (Or.inl (List.mem_of_getElem? (i := 0) rfl))).wr W40 (Or.inl (List.mem_of_getElem? (i := 0) rfl))), f42, f43, f44, f45, f46, f41⟩
theorem own_pd1 : parseMethodDescriptor "(IDIID)V" = some ⟨[.int, .double, .int, .int, .double], none⟩ := by decide +kernel
set_option maxRecDepth 65536 in
set_option maxHeartbeats 40000000 in
theorem own_leaf (l : Launch) (Z : State) (a0 : Array Value) (hw : ∀ d ∈ tables_1, d.before a0 Z = true) (sc : UInt64) (h0 : Heap) (n0 : Nat) (z0 : n0 ≤ h0.size) :
    own_Met l Z (⟨"com/example/answer_by_role/answerbyrole/engine/ranking/RegressionTree$Node", "leaf", "(D)Lcom/example/answer_by_role/answerbyrole/engine/ranking/RegressionTree$Node;"⟩ : MethodName) prog_29_method_2_code 2 (some (.object "com/example/answer_by_role/answerbyrole/engine/ranking/RegressionTree$Node")) ({ frames := 3, cells := 1, slots := 5, locals := 60 } : Room) n0 #[(.double sc)] h0 (fun v h => ∃ a : Addr, v = some (.ref a) ∧ h0.size ≤ a ∧ Keep h0 h [] ∧ Exa Z h a "com/example/answer_by_role/answerbyrole/engine/ranking/RegressionTree$Node" ∧ Fld Z h a "com/example/answer_by_role/answerbyrole/engine/ranking/RegressionTree$Node" "measure" "I" (.int (-1 : Int32)) ∧ Fld Z h a "com/example/answer_by_role/answerbyrole/engine/ranking/RegressionTree$Node" "threshold" "D" (.double 0) ∧ Fld Z h a "com/example/answer_by_role/answerbyrole/engine/ranking/RegressionTree$Node" "below" "I" (.int (-1 : Int32)) ∧ Fld Z h a "com/example/answer_by_role/answerbyrole/engine/ranking/RegressionTree$Node" "above" "I" (.int (-1 : Int32)) ∧ Fld Z h a "com/example/answer_by_role/answerbyrole/engine/ranking/RegressionTree$Node" "score" "D" (.double sc)) := by
  refine own_met (by decide +kernel) #[.val (.double sc), .second] (fun m => by first | rfl | (simp [entryFrame, mkF, argsToLocals, Value.category]; done)) ?_
  intro p e s m below meth c T0 C S0
  refine own_new C S0 (own_wd hw 5 rfl) (own_wd hw 6 rfl) (own_wd hw 3 rfl) (by decide +kernel) (by decide) (by decide) ?_
  intro T47 h49 a50 S48 g51 E52 x53 D54
  have f55 : Fld Z h49 a50 "com/example/answer_by_role/answerbyrole/engine/ranking/RegressionTree$Node" "measure" "I" (.int (0 : Int32)) := D54 (ty := .int) (Or.inr (own_wd hw 19 rfl)) (by decide)
  have f56 : Fld Z h49 a50 "com/example/answer_by_role/answerbyrole/engine/ranking/RegressionTree$Node" "threshold" "D" (.double 0) := D54 (ty := .double) (Or.inr (own_wd hw 21 rfl)) (by decide)
  have f57 : Fld Z h49 a50 "com/example/answer_by_role/answerbyrole/engine/ranking/RegressionTree$Node" "below" "I" (.int (0 : Int32)) := D54 (ty := .int) (Or.inr (own_wd hw 23 rfl)) (by decide)
  have f58 : Fld Z h49 a50 "com/example/answer_by_role/answerbyrole/engine/ranking/RegressionTree$Node" "above" "I" (.int (0 : Int32)) := D54 (ty := .int) (Or.inr (own_wd hw 25 rfl)) (by decide)
  have f59 : Fld Z h49 a50 "com/example/answer_by_role/answerbyrole/engine/ranking/RegressionTree$Node" "score" "D" (.double 0) := D54 (ty := .double) (Or.inr (own_wd hw 27 rfl)) (by decide)
  refine own_seg C S48 [(3, .dup, 1), (4, .iconst (-1), 1)] (by decide +kernel) 5 #[.val (.double sc), .second] [(.int (-1 : Int32)), (.ref a50), (.ref a50)] rfl ?_
  refine own_dconst0 C S48 (by decide +kernel) ?_
  refine own_seg C S48 [(6, .iconst (-1), 1), (7, .iconst (-1), 1), (8, .dload_n 0, 1)] (by decide +kernel) 9 #[.val (.double sc), .second] [(.double sc), (.int (-1 : Int32)), (.int (-1 : Int32)), (.double 0), (.int (-1 : Int32)), (.ref a50), (.ref a50)] rfl ?_
  have f60 : n0 ≤ h49.size := (Nat.le_trans z0 E52.1)
  have g61 : n0 ≤ a50 := by rw [g51]; exact z0
  refine own_callI C S48 rfl (own_wd hw 7 rfl) (own_wd hw 8 rfl) (own_wd hw 9 rfl) (by decide) (own_Met.pay (own_ini l Z a0 hw a50 (-1 : Int32) 0 (-1 : Int32) (-1 : Int32) sc h49 n0 f60 g61 x53 f55 f56 f57 f58 f59) C 1 (own_wd hw 9 rfl) (own_wd hw 3 rfl) (by decide) (by decide)) (fun _ _ _ q => q.2) [(.int (-1 : Int32)), (.double 0), (.int (-1 : Int32)), (.int (-1 : Int32)), (.double sc)] [(.ref a50)] rfl own_pd1 rfl rfl rfl (Nat.le_of_ble_eq_true rfl) (by decide) (by decide) (by decide +kernel) ?_
  rintro T69 h70 v71 L72 S73 ⟨⟨rfl, K62, x63, f64, f65, f66, f67, f68⟩, -⟩
  replace S73 : own_S p l e ({ frames := 3, cells := 1, slots := 5, locals := 60 } : Room) s m #[(.double sc)] below meth c n0 T69 h70 1 5 := S73
  show own_Go p e below s n0 _ _ _ T69 (mkF m 12 #[.val (.double sc), .second] [(.ref a50)])
  refine own_retA C S73 rfl rfl (by decide +kernel) (by decide) (by decide) ?_
  exact ⟨a50, rfl, (by rw [g51]; exact (Nat.le_refl _)), (((Keep.refl _ _).ext E52).trans K62 (allS (Or.inr (by rw [g51]; exact (Nat.le_refl _))) all0)), x63, f64, f65, f66, f67, f68⟩
set_option maxRecDepth 65536 in
set_option maxHeartbeats 40000000 in
theorem own_g_measure (l : Launch) (Z : State) (a0 : Array Value) (hw : ∀ d ∈ tables_1, d.before a0 Z = true) (a : Addr) (y : Int32) (h0 : Heap) (n0 : Nat) (z0 : n0 ≤ h0.size) (pF : Fld Z h0 a "com/example/answer_by_role/answerbyrole/engine/ranking/RegressionTree$Node" "measure" "I" (.int y)) :
    own_Met l Z (⟨"com/example/answer_by_role/answerbyrole/engine/ranking/RegressionTree$Node", "measure", "()I"⟩ : MethodName) prog_29_method_7_code 1 (some .int) ({ frames := 0, cells := 0, slots := 0, locals := 0 } : Room) n0 #[(.ref a)] h0 (fun v h => v = some (.int y) ∧ h = h0) := by
  refine own_met (by decide +kernel) #[.val (.ref a)] (fun m => by first | rfl | (simp [entryFrame, mkF, argsToLocals, Value.category]; done)) ?_
  intro p e s m below meth c T0 C S0
  refine own_seg C S0 [(0, .aload_n 0, 1)] (by decide +kernel) 1 #[.val (.ref a)] [(.ref a)] rfl ?_
  refine own_getF C S0 (host := "") (Or.inl (own_wd hw 18 rfl)) Via.refl pF (by decide +kernel) ?_
  intro T74 S75
  refine own_retI C S75 (by decide +kernel) (by decide) (by decide) ?_
  exact ⟨rfl, rfl⟩
set_option maxRecDepth 65536 in
set_option maxHeartbeats 40000000 in
theorem own_g_threshold (l : Launch) (Z : State) (a0 : Array Value) (hw : ∀ d ∈ tables_1, d.before a0 Z = true) (a : Addr) (y : UInt64) (h0 : Heap) (n0 : Nat) (z0 : n0 ≤ h0.size) (pF : Fld Z h0 a "com/example/answer_by_role/answerbyrole/engine/ranking/RegressionTree$Node" "threshold" "D" (.double y)) :
    own_Met l Z (⟨"com/example/answer_by_role/answerbyrole/engine/ranking/RegressionTree$Node", "threshold", "()D"⟩ : MethodName) prog_29_method_8_code 1 (some .double) ({ frames := 0, cells := 0, slots := 0, locals := 0 } : Room) n0 #[(.ref a)] h0 (fun v h => v = some (.double y) ∧ h = h0) := by
  refine own_met (by decide +kernel) #[.val (.ref a)] (fun m => by first | rfl | (simp [entryFrame, mkF, argsToLocals, Value.category]; done)) ?_
  intro p e s m below meth c T0 C S0
  refine own_seg C S0 [(0, .aload_n 0, 1)] (by decide +kernel) 1 #[.val (.ref a)] [(.ref a)] rfl ?_
  refine own_getF C S0 (host := "") (Or.inl (own_wd hw 20 rfl)) Via.refl pF (by decide +kernel) ?_
  intro T76 S77
  refine own_retD C S77 (by decide +kernel) (by decide) (by decide) ?_
  exact ⟨rfl, rfl⟩
set_option maxRecDepth 65536 in
set_option maxHeartbeats 40000000 in
theorem own_g_below (l : Launch) (Z : State) (a0 : Array Value) (hw : ∀ d ∈ tables_1, d.before a0 Z = true) (a : Addr) (y : Int32) (h0 : Heap) (n0 : Nat) (z0 : n0 ≤ h0.size) (pF : Fld Z h0 a "com/example/answer_by_role/answerbyrole/engine/ranking/RegressionTree$Node" "below" "I" (.int y)) :
    own_Met l Z (⟨"com/example/answer_by_role/answerbyrole/engine/ranking/RegressionTree$Node", "below", "()I"⟩ : MethodName) prog_29_method_9_code 1 (some .int) ({ frames := 0, cells := 0, slots := 0, locals := 0 } : Room) n0 #[(.ref a)] h0 (fun v h => v = some (.int y) ∧ h = h0) := by
  refine own_met (by decide +kernel) #[.val (.ref a)] (fun m => by first | rfl | (simp [entryFrame, mkF, argsToLocals, Value.category]; done)) ?_
  intro p e s m below meth c T0 C S0
  refine own_seg C S0 [(0, .aload_n 0, 1)] (by decide +kernel) 1 #[.val (.ref a)] [(.ref a)] rfl ?_
  refine own_getF C S0 (host := "") (Or.inl (own_wd hw 22 rfl)) Via.refl pF (by decide +kernel) ?_
  intro T78 S79
  refine own_retI C S79 (by decide +kernel) (by decide) (by decide) ?_
  exact ⟨rfl, rfl⟩
set_option maxRecDepth 65536 in
set_option maxHeartbeats 40000000 in
theorem own_g_above (l : Launch) (Z : State) (a0 : Array Value) (hw : ∀ d ∈ tables_1, d.before a0 Z = true) (a : Addr) (y : Int32) (h0 : Heap) (n0 : Nat) (z0 : n0 ≤ h0.size) (pF : Fld Z h0 a "com/example/answer_by_role/answerbyrole/engine/ranking/RegressionTree$Node" "above" "I" (.int y)) :
    own_Met l Z (⟨"com/example/answer_by_role/answerbyrole/engine/ranking/RegressionTree$Node", "above", "()I"⟩ : MethodName) prog_29_method_10_code 1 (some .int) ({ frames := 0, cells := 0, slots := 0, locals := 0 } : Room) n0 #[(.ref a)] h0 (fun v h => v = some (.int y) ∧ h = h0) := by
  refine own_met (by decide +kernel) #[.val (.ref a)] (fun m => by first | rfl | (simp [entryFrame, mkF, argsToLocals, Value.category]; done)) ?_
  intro p e s m below meth c T0 C S0
  refine own_seg C S0 [(0, .aload_n 0, 1)] (by decide +kernel) 1 #[.val (.ref a)] [(.ref a)] rfl ?_
  refine own_getF C S0 (host := "") (Or.inl (own_wd hw 24 rfl)) Via.refl pF (by decide +kernel) ?_
  intro T80 S81
  refine own_retI C S81 (by decide +kernel) (by decide) (by decide) ?_
  exact ⟨rfl, rfl⟩
set_option maxRecDepth 65536 in
set_option maxHeartbeats 40000000 in
theorem own_g_score (l : Launch) (Z : State) (a0 : Array Value) (hw : ∀ d ∈ tables_1, d.before a0 Z = true) (a : Addr) (y : UInt64) (h0 : Heap) (n0 : Nat) (z0 : n0 ≤ h0.size) (pF : Fld Z h0 a "com/example/answer_by_role/answerbyrole/engine/ranking/RegressionTree$Node" "score" "D" (.double y)) :
    own_Met l Z (⟨"com/example/answer_by_role/answerbyrole/engine/ranking/RegressionTree$Node", "score", "()D"⟩ : MethodName) prog_29_method_11_code 1 (some .double) ({ frames := 0, cells := 0, slots := 0, locals := 0 } : Room) n0 #[(.ref a)] h0 (fun v h => v = some (.double y) ∧ h = h0) := by
  refine own_met (by decide +kernel) #[.val (.ref a)] (fun m => by first | rfl | (simp [entryFrame, mkF, argsToLocals, Value.category]; done)) ?_
  intro p e s m below meth c T0 C S0
  refine own_seg C S0 [(0, .aload_n 0, 1)] (by decide +kernel) 1 #[.val (.ref a)] [(.ref a)] rfl ?_
  refine own_getF C S0 (host := "") (Or.inl (own_wd hw 26 rfl)) Via.refl pF (by decide +kernel) ?_
  intro T82 S83
  refine own_retD C S83 (by decide +kernel) (by decide) (by decide) ?_
  exact ⟨rfl, rfl⟩
set_option maxRecDepth 65536 in
set_option maxHeartbeats 40000000 in
theorem own_max (l : Launch) (Z : State) (a0 : Array Value) (hw : ∀ d ∈ tables_1, d.before a0 Z = true) (x1 : Int32) (x2 : Int32) (h0 : Heap) (n0 : Nat) (z0 : n0 ≤ h0.size) :
    own_Met l Z (⟨"java/lang/Math", "max", "(II)I"⟩ : MethodName) jdk_29_method_65_code 2 (some .int) ({ frames := 0, cells := 0, slots := 0, locals := 0 } : Room) n0 #[(.int x1), (.int x2)] h0 (fun v h => v = some (.int (if x1 < x2 then x2 else x1)) ∧ h = h0) := by
  refine own_met (by decide +kernel) #[.val (.int x1), .val (.int x2)] (fun m => by first | rfl | (simp [entryFrame, mkF, argsToLocals, Value.category]; done)) ?_
  intro p e s m below meth c T0 C S0
  refine own_seg C S0 [(0, .iload_n 0, 1), (1, .iload_n 1, 1)] (by decide +kernel) 2 #[.val (.int x1), .val (.int x2)] [(.int x2), (.int x1)] rfl ?_
  refine own_icmp C S0 (q := .lt) (o := 7) (by decide +kernel) 9 (by decide) (by decide) (fun (q84 : x1 < x2) => ?_) (fun (q85 : ¬ x1 < x2) => ?_)
  · refine own_seg C S0 [(9, .iload_n 1, 1)] (by decide +kernel) 10 #[.val (.int x1), .val (.int x2)] [(.int x2)] rfl ?_
    refine own_retI C S0 (by decide +kernel) (by decide) (by decide) ?_
    exact ⟨by rw [if_pos q84], rfl⟩
  · refine own_seg C S0 [(5, .iload_n 0, 1), (6, .goto 4, 3)] (by decide +kernel) 10 #[.val (.int x1), .val (.int x2)] [(.int x1)] rfl ?_
    refine own_retI C S0 (by decide +kernel) (by decide) (by decide) ?_
    exact ⟨by rw [if_neg q85], rfl⟩
set_option maxRecDepth 65536 in
set_option maxHeartbeats 40000000 in
theorem own_abc (l : Launch) (Z : State) (a0 : Array Value) (hw : ∀ d ∈ tables_1, d.before a0 Z = true) (a : Addr) (h0 : Heap) (n0 : Nat) (z0 : n0 ≤ h0.size) :
    own_Met l Z (⟨"java/util/AbstractCollection", "<init>", "()V"⟩ : MethodName) jdk_22_method_1_code 1 none ({ frames := 1, cells := 0, slots := 0, locals := 12 } : Room) n0 #[(.ref a)] h0 (fun v h => v = none ∧ h = h0) := by
  refine own_met (by decide +kernel) #[.val (.ref a)] (fun m => by first | rfl | (simp [entryFrame, mkF, argsToLocals, Value.category]; done)) ?_
  intro p e s m below meth c T0 C S0
  refine own_seg C S0 [(0, .aload_n 0, 1)] (by decide +kernel) 1 #[.val (.ref a)] [(.ref a)] rfl ?_
  refine own_initO C S0 (own_wd hw 71 rfl) (own_wd hw 16 rfl) (own_wd hw 17 rfl) rfl (by decide +kernel) (by decide) 0 (Nat.le_of_ble_eq_true rfl) (by decide) ?_
  intro T86 S87
  refine own_retV C S87 (by decide +kernel) (by decide) (by decide) ?_
  exact ⟨rfl, rfl⟩
set_option maxRecDepth 65536 in
set_option maxHeartbeats 40000000 in
theorem own_abl (l : Launch) (Z : State) (a0 : Array Value) (hw : ∀ d ∈ tables_1, d.before a0 Z = true) (a : Addr) (h0 : Heap) (n0 : Nat) (z0 : n0 ≤ h0.size) (ge_a : n0 ≤ a) (pE : Exa Z h0 a "java/util/ArrayList") (pm : Fld Z h0 a "java/util/AbstractList" "modCount" "I" (.int (0 : Int32))) (pe : Fld Z h0 a "java/util/ArrayList" "elementData" "[Ljava/lang/Object;" .null) (ps : Fld Z h0 a "java/util/ArrayList" "size" "I" (.int (0 : Int32))) :
    own_Met l Z (⟨"java/util/AbstractList", "<init>", "()V"⟩ : MethodName) jdk_39_method_1_code 1 none ({ frames := 2, cells := 0, slots := 0, locals := 24 } : Room) n0 #[(.ref a)] h0 (fun v h => v = none ∧ Keep h0 h [a] ∧ Exa Z h a "java/util/ArrayList" ∧ Fld Z h a "java/util/AbstractList" "modCount" "I" (.int (0 : Int32)) ∧ Fld Z h a "java/util/ArrayList" "elementData" "[Ljava/lang/Object;" .null ∧ Fld Z h a "java/util/ArrayList" "size" "I" (.int (0 : Int32))) := by
  refine own_met (by decide +kernel) #[.val (.ref a)] (fun m => by first | rfl | (simp [entryFrame, mkF, argsToLocals, Value.category]; done)) ?_
  intro p e s m below meth c T0 C S0
  refine own_seg C S0 [(0, .aload_n 0, 1)] (by decide +kernel) 1 #[.val (.ref a)] [(.ref a)] rfl ?_
  refine own_callI C S0 rfl (own_wd hw 65 rfl) (own_wd hw 66 rfl) (own_wd hw 70 rfl) (by decide) (own_Met.pay (own_abc l Z a0 hw a h0 n0 z0) C 0 (own_wd hw 70 rfl) (own_wd hw 69 rfl) (by decide) (by decide)) (fun _ _ _ q => q.2) [] [] rfl own_pd0 rfl rfl rfl (Nat.le_of_ble_eq_true rfl) (by decide) (by decide) (by decide +kernel) ?_
  rintro T89 h90 v91 L92 S93 ⟨⟨rfl, e88⟩, -⟩
  replace S93 : own_S p l e ({ frames := 2, cells := 0, slots := 0, locals := 24 } : Room) s m #[(.ref a)] below meth c n0 T89 h90 0 0 := S93
  rw [e88] at S93; clear e88
  show own_Go p e below s n0 _ _ _ T89 (mkF m 4 #[.val (.ref a)] [])
  refine own_seg C S93 [(4, .aload_n 0, 1), (5, .iconst 0, 1)] (by decide +kernel) 6 #[.val (.ref a)] [(.int (0 : Int32)), (.ref a)] rfl ?_
  refine own_putF C S93 (ty := .int) (host := "") (Or.inl (own_wd hw 72 rfl)) Via.refl pm pE (Or.inl (own_wd hw 73 rfl)) (own_wd hw 54 rfl) (by decide) rfl rfl ge_a (by decide +kernel) ?_
  intro T94 h96 S95 W97
  have f98 : Fld Z h96 a "java/util/AbstractList" "modCount" "I" (.int (0 : Int32)) := Fld.same W97 pm
  refine own_retV C S95 (by decide +kernel) (by decide) (by decide) ?_
  have f99 : Exa Z h96 a "java/util/ArrayList" := (Exa.wr W97 pE)
  have f100 : Fld Z h96 a "java/util/ArrayList" "elementData" "[Ljava/lang/Object;" .null := (Fld.other W97 pe (Or.inr (slot_ne (t := (.array (.object "java/lang/Object"))) (t' := .int) (Or.inl (own_wd hw 76 rfl)) (Or.inl (own_wd hw 73 rfl)) (by decide) (by decide) (by decide))))
  have f101 : Fld Z h96 a "java/util/ArrayList" "size" "I" (.int (0 : Int32)) := (Fld.other W97 ps (Or.inr (slot_ne (t := .int) (t' := .int) (Or.inl (own_wd hw 85 rfl)) (Or.inl (own_wd hw 73 rfl)) (by decide) (by decide) (by decide))))
  exact ⟨rfl, ((Keep.refl _ _).wr W97 (Or.inl (List.mem_of_getElem? (i := 0) rfl))), f99, f98, f100, f101⟩
set_option maxRecDepth 65536 in
set_option maxHeartbeats 40000000 in
theorem own_al (l : Launch) (Z : State) (a0 : Array Value) (hw : ∀ d ∈ tables_1, d.before a0 Z = true) (a : Addr) (dd : Addr) (h0 : Heap) (n0 : Nat) (z0 : n0 ≤ h0.size) (ge_a : n0 ≤ a) (pE : Exa Z h0 a "java/util/ArrayList") (pm : Fld Z h0 a "java/util/AbstractList" "modCount" "I" (.int (0 : Int32))) (pe : Fld Z h0 a "java/util/ArrayList" "elementData" "[Ljava/lang/Object;" .null) (ps : Fld Z h0 a "java/util/ArrayList" "size" "I" (.int (0 : Int32))) (X00 : Old Z n0 h0) (SD : Sta Z Z.heap "java/util/ArrayList" "DEFAULTCAPACITY_EMPTY_ELEMENTDATA" "[Ljava/lang/Object;" (.ref dd)) (od : dd < n0) :
    own_Met l Z (⟨"java/util/ArrayList", "<init>", "()V"⟩ : MethodName) jdk_38_method_2_code 1 none ({ frames := 3, cells := 0, slots := 0, locals := 36 } : Room) n0 #[(.ref a)] h0 (fun v h => v = none ∧ Keep h0 h [a] ∧ Exa Z h a "java/util/ArrayList" ∧ Fld Z h a "java/util/AbstractList" "modCount" "I" (.int (0 : Int32)) ∧ Fld Z h a "java/util/ArrayList" "elementData" "[Ljava/lang/Object;" (.ref dd) ∧ Fld Z h a "java/util/ArrayList" "size" "I" (.int (0 : Int32))) := by
  refine own_met (by decide +kernel) #[.val (.ref a)] (fun m => by first | rfl | (simp [entryFrame, mkF, argsToLocals, Value.category]; done)) ?_
  intro p e s m below meth c T0 C S0
  refine own_seg C S0 [(0, .aload_n 0, 1)] (by decide +kernel) 1 #[.val (.ref a)] [(.ref a)] rfl ?_
  refine own_callI C S0 rfl (own_wd hw 59 rfl) (own_wd hw 60 rfl) (own_wd hw 64 rfl) (by decide) (own_Met.pay (own_abl l Z a0 hw a h0 n0 z0 ge_a pE pm pe ps) C 0 (own_wd hw 64 rfl) (own_wd hw 63 rfl) (by decide) (by decide)) (fun _ _ _ q => q.2) [] [] rfl own_pd0 rfl rfl rfl (Nat.le_of_ble_eq_true rfl) (by decide) (by decide) (by decide +kernel) ?_
  rintro T107 h108 v109 L110 S111 ⟨⟨rfl, K102, f103, f104, f105, f106⟩, -⟩
  replace S111 : own_S p l e ({ frames := 3, cells := 0, slots := 0, locals := 36 } : Room) s m #[(.ref a)] below meth c n0 T107 h108 0 0 := S111
  show own_Go p e below s n0 _ _ _ T107 (mkF m 4 #[.val (.ref a)] [])
  refine own_seg C S111 [(4, .aload_n 0, 1)] (by decide +kernel) 5 #[.val (.ref a)] [(.ref a)] rfl ?_
  have f112 : Old Z n0 h108 := (X00.keep K102 (allS ge_a all0))
  refine own_getS C S111 (own_wd hw 74 rfl) Via.refl (SD.ext f112.2) (by decide +kernel) ?_
  intro T113 S114
  refine own_putF C S114 (ty := (.array (.object "java/lang/Object"))) (host := "") (Or.inl (own_wd hw 75 rfl)) Via.refl f105 f103 (Or.inl (own_wd hw 76 rfl)) (own_wd hw 54 rfl) (by decide) rfl rfl ge_a (by decide +kernel) ?_
  intro T115 h117 S116 W118
  have f119 : Fld Z h117 a "java/util/ArrayList" "elementData" "[Ljava/lang/Object;" (.ref dd) := Fld.same W118 f105
  refine own_retV C S116 (by decide +kernel) (by decide) (by decide) ?_
  have f120 : Exa Z h117 a "java/util/ArrayList" := (Exa.wr W118 f103)
  have f121 : Fld Z h117 a "java/util/AbstractList" "modCount" "I" (.int (0 : Int32)) := (Fld.other W118 f104 (Or.inr (slot_ne (t := .int) (t' := (.array (.object "java/lang/Object"))) (Or.inl (own_wd hw 73 rfl)) (Or.inl (own_wd hw 76 rfl)) (by decide) (by decide) (by decide))))
  have f122 : Fld Z h117 a "java/util/ArrayList" "size" "I" (.int (0 : Int32)) := (Fld.other W118 f106 (Or.inr (slot_ne (t := .int) (t' := (.array (.object "java/lang/Object"))) (Or.inl (own_wd hw 85 rfl)) (Or.inl (own_wd hw 76 rfl)) (by decide) (by decide) (by decide))))
  exact ⟨rfl, (((Keep.refl _ _).trans K102 (allS (Or.inl (List.mem_of_getElem? (i := 0) rfl)) all0)).wr W118 (Or.inl (List.mem_of_getElem? (i := 0) rfl))), f120, f121, f119, f122⟩
theorem own_pd2 : parseMethodDescriptor "(II)I" = some ⟨[.int, .int], (some .int)⟩ := by decide +kernel
set_option maxRecDepth 65536 in
set_option maxHeartbeats 40000000 in
theorem own_grow1 (l : Launch) (Z : State) (a0 : Array Value) (hw : ∀ d ∈ tables_1, d.before a0 Z = true) (a : Addr) (mc : Int32) (dd : Addr) (kd : ClassId) (h0 : Heap) (n0 : Nat) (z0 : n0 ≤ h0.size) (ge_a : n0 ≤ a) (pE : Exa Z h0 a "java/util/ArrayList") (pm : Fld Z h0 a "java/util/AbstractList" "modCount" "I" (.int mc)) (pe : Fld Z h0 a "java/util/ArrayList" "elementData" "[Ljava/lang/Object;" (.ref dd)) (ps : Fld Z h0 a "java/util/ArrayList" "size" "I" (.int (0 : Int32))) (pD : Arv Z h0 dd kd (.object "java/lang/Object") (0 : Int32) ([]) .null) (X00 : Old Z n0 h0) (SD : Sta Z Z.heap "java/util/ArrayList" "DEFAULTCAPACITY_EMPTY_ELEMENTDATA" "[Ljava/lang/Object;" (.ref dd)) (od : dd < n0) :
    own_Met l Z (⟨"java/util/ArrayList", "grow", "(I)[Ljava/lang/Object;"⟩ : MethodName) jdk_38_method_6_code 4 (some (.array (.object "java/lang/Object"))) ({ frames := 1, cells := 1, slots := 10, locals := 40 } : Room) n0 #[(.ref a), (.int (1 : Int32))] h0 (fun v h => ∃ t : Addr, ∃ kt : ClassId, v = some (.ref t) ∧ h0.size ≤ t ∧ Keep h0 h [a] ∧ Exa Z h a "java/util/ArrayList" ∧ Fld Z h a "java/util/AbstractList" "modCount" "I" (.int mc) ∧ Fld Z h a "java/util/ArrayList" "elementData" "[Ljava/lang/Object;" (.ref t) ∧ Fld Z h a "java/util/ArrayList" "size" "I" (.int (0 : Int32)) ∧ Arv Z h t kt (.object "java/lang/Object") (10 : Int32) ([.null, .null, .null, .null, .null, .null, .null, .null, .null, .null]) .null ∧ Ovr Z kt "java/lang/Object") := by
  refine own_met (by decide +kernel) #[.val (.ref a), .val (.int (1 : Int32)), .unset, .unset] (fun m => by first | rfl | (simp [entryFrame, mkF, argsToLocals, Value.category]; done)) ?_
  intro p e s m below meth c T0 C S0
  refine own_seg C S0 [(0, .aload_n 0, 1)] (by decide +kernel) 1 #[.val (.ref a), .val (.int (1 : Int32)), .unset, .unset] [(.ref a)] rfl ?_
  refine own_getF C S0 (host := "") (Or.inl (own_wd hw 75 rfl)) Via.refl pe (by decide +kernel) ?_
  intro T123 S124
  refine own_alen C S124 pD (by decide +kernel) ?_
  refine own_seg C S124 [(5, .istore_n 2, 1), (6, .iload_n 2, 1)] (by decide +kernel) 7 #[.val (.ref a), .val (.int (1 : Int32)), .val (.int (0 : Int32)), .unset] [(.int (0 : Int32))] rfl ?_
  refine own_if C S124 (q := .gt) (o := 13) (by decide +kernel) 20 (by decide) (by decide) (fun (hq : (0 : Int32) < (0 : Int32)) => False.elim (absurd hq (by decide))) (fun (q125 : ¬ (0 : Int32) < (0 : Int32)) => ?_)
  refine own_seg C S124 [(10, .aload_n 0, 1)] (by decide +kernel) 11 #[.val (.ref a), .val (.int (1 : Int32)), .val (.int (0 : Int32)), .unset] [(.ref a)] rfl ?_
  refine own_getF C S124 (host := "") (Or.inl (own_wd hw 75 rfl)) Via.refl pe (by decide +kernel) ?_
  intro T126 S127
  refine own_getS C S127 (own_wd hw 74 rfl) Via.refl (SD.ext X00.2) (by decide +kernel) ?_
  intro T128 S129
  refine own_acmp C S129 (q := .eq) (o := 28) rfl rfl (by decide +kernel) 45 (by decide) (by decide) (fun (q130 : ((.ref dd) : Value) = (.ref dd)) => ?_) (fun (hq : ¬ ((.ref dd) : Value) = (.ref dd)) => False.elim (hq rfl))
  refine own_seg C S129 [(45, .aload_n 0, 1), (46, .bipush 10, 2), (48, .iload_n 1, 1)] (by decide +kernel) 49 #[.val (.ref a), .val (.int (1 : Int32)), .val (.int (0 : Int32)), .unset] [(.int (1 : Int32)), (.int (10 : Int32)), (.ref a)] rfl ?_
  refine own_callS C S129 (own_wd hw 101 rfl) (own_wd hw 102 rfl) (own_wd hw 103 rfl) (own_wd hw 104 rfl) (by decide) (own_Met.pay (own_max l Z a0 hw (10 : Int32) (1 : Int32) h0 n0 z0) C 1 (own_wd hw 104 rfl) (own_wd hw 103 rfl) (by decide) (by decide)) (fun _ _ _ q => q.2) [(.int (10 : Int32)), (.int (1 : Int32))] [(.ref a)] rfl own_pd2 rfl rfl rfl (Nat.le_of_ble_eq_true rfl) (by decide) (by decide) (by decide +kernel) ?_
  rintro T132 h133 v134 L135 S136 ⟨⟨rfl, e131⟩, -⟩
  replace S136 : own_S p l e ({ frames := 1, cells := 1, slots := 10, locals := 40 } : Room) s m #[(.ref a), (.int (1 : Int32))] below meth c n0 T132 h133 0 0 := S136
  rw [e131] at S136; clear e131
  show own_Go p e below s n0 _ _ _ T132 (mkF m 52 #[.val (.ref a), .val (.int (1 : Int32)), .val (.int (0 : Int32)), .unset] [(.int (if (10 : Int32) < (1 : Int32) then (1 : Int32) else (10 : Int32))), (.ref a)])
  show own_Go p e below s n0 _ _ _ T132 (mkF m 52 #[.val (.ref a), .val (.int (1 : Int32)), .val (.int (0 : Int32)), .unset] [(.int (10 : Int32)), (.ref a)])
  refine own_newR C S136 (own_wd hw 105 rfl) (own_wd hw 106 rfl) (by decide +kernel) (by decide) 10 (by decide) (by decide) (by decide) (by decide) ?_
  intro T137 h139 a140 k141 S138 g142 E143 f144 O145
  have f146 : Arv Z h139 a140 k141 (.object "java/lang/Object") (10 : Int32) ([.null, .null, .null, .null, .null, .null, .null, .null, .null, .null]) .null := Arv.pad f144 (pad_rep [] .null 10)
  refine own_seg C S138 [(55, .dup_x1, 1)] (by decide +kernel) 56 #[.val (.ref a), .val (.int (1 : Int32)), .val (.int (0 : Int32)), .unset] [(.ref a140), (.ref a), (.ref a140)] rfl ?_
  have f147 : Fld Z h139 a "java/util/ArrayList" "elementData" "[Ljava/lang/Object;" (.ref dd) := (Fld.ext E143 pe)
  have f148 : Exa Z h139 a "java/util/ArrayList" := (Exa.ext E143 pE)
  refine own_putF C S138 (ty := (.array (.object "java/lang/Object"))) (host := "") (Or.inl (own_wd hw 75 rfl)) Via.refl f147 f148 (Or.inl (own_wd hw 76 rfl)) (own_wd hw 54 rfl) (by decide) rfl rfl ge_a (by decide +kernel) ?_
  intro T149 h151 S150 W152
  have f153 : Fld Z h151 a "java/util/ArrayList" "elementData" "[Ljava/lang/Object;" (.ref a140) := Fld.same W152 f147
  refine own_retA C S150 rfl rfl (by decide +kernel) (by decide) (by decide) ?_
  have f154 : Exa Z h151 a "java/util/ArrayList" := (Exa.wr W152 f148)
  have f155 : Fld Z h151 a "java/util/AbstractList" "modCount" "I" (.int mc) := (Fld.other W152 (Fld.ext E143 pm) (Or.inr (slot_ne (t := .int) (t' := (.array (.object "java/lang/Object"))) (Or.inl (own_wd hw 73 rfl)) (Or.inl (own_wd hw 76 rfl)) (by decide) (by decide) (by decide))))
  have f156 : Fld Z h151 a "java/util/ArrayList" "size" "I" (.int (0 : Int32)) := (Fld.other W152 (Fld.ext E143 ps) (Or.inr (slot_ne (t := .int) (t' := (.array (.object "java/lang/Object"))) (Or.inl (own_wd hw 85 rfl)) (Or.inl (own_wd hw 76 rfl)) (by decide) (by decide) (by decide))))
  have n157 : a ≠ a140 := by rw [g142]; exact Nat.ne_of_lt pE.lt
  have f158 : Arv Z h151 a140 k141 (.object "java/lang/Object") (10 : Int32) ([.null, .null, .null, .null, .null, .null, .null, .null, .null, .null]) .null := (f146.other W152 (Ne.symm n157))
  exact ⟨a140, k141, rfl, (by rw [g142]; exact (Nat.le_refl _)), (((Keep.refl _ _).ext E143).wr W152 (Or.inl (List.mem_of_getElem? (i := 0) rfl))), f154, f155, f153, f156, f158, O145⟩
theorem own_pd3 : parseMethodDescriptor "(I)[Ljava/lang/Object;" = some ⟨[.int], (some (.array (.object "java/lang/Object")))⟩ := by decide +kernel
set_option maxRecDepth 65536 in
set_option maxHeartbeats 40000000 in
theorem own_grow0 (l : Launch) (Z : State) (a0 : Array Value) (hw : ∀ d ∈ tables_1, d.before a0 Z = true) (a : Addr) (mc : Int32) (dd : Addr) (kd : ClassId) (h0 : Heap) (n0 : Nat) (z0 : n0 ≤ h0.size) (ge_a : n0 ≤ a) (pE : Exa Z h0 a "java/util/ArrayList") (pm : Fld Z h0 a "java/util/AbstractList" "modCount" "I" (.int mc)) (pe : Fld Z h0 a "java/util/ArrayList" "elementData" "[Ljava/lang/Object;" (.ref dd)) (ps : Fld Z h0 a "java/util/ArrayList" "size" "I" (.int (0 : Int32))) (pD : Arv Z h0 dd kd (.object "java/lang/Object") (0 : Int32) ([]) .null) (X00 : Old Z n0 h0) (SD : Sta Z Z.heap "java/util/ArrayList" "DEFAULTCAPACITY_EMPTY_ELEMENTDATA" "[Ljava/lang/Object;" (.ref dd)) (od : dd < n0) :
    own_Met l Z (⟨"java/util/ArrayList", "grow", "()[Ljava/lang/Object;"⟩ : MethodName) jdk_38_method_7_code 1 (some (.array (.object "java/lang/Object"))) ({ frames := 2, cells := 1, slots := 10, locals := 60 } : Room) n0 #[(.ref a)] h0 (fun v h => ∃ t : Addr, ∃ kt : ClassId, v = some (.ref t) ∧ h0.size ≤ t ∧ Keep h0 h [a] ∧ Exa Z h a "java/util/ArrayList" ∧ Fld Z h a "java/util/AbstractList" "modCount" "I" (.int mc) ∧ Fld Z h a "java/util/ArrayList" "elementData" "[Ljava/lang/Object;" (.ref t) ∧ Fld Z h a "java/util/ArrayList" "size" "I" (.int (0 : Int32)) ∧ Arv Z h t kt (.object "java/lang/Object") (10 : Int32) ([.null, .null, .null, .null, .null, .null, .null, .null, .null, .null]) .null ∧ Ovr Z kt "java/lang/Object") := by
  refine own_met (by decide +kernel) #[.val (.ref a)] (fun m => by first | rfl | (simp [entryFrame, mkF, argsToLocals, Value.category]; done)) ?_
  intro p e s m below meth c T0 C S0
  refine own_seg C S0 [(0, .aload_n 0, 1), (1, .aload_n 0, 1)] (by decide +kernel) 2 #[.val (.ref a)] [(.ref a), (.ref a)] rfl ?_
  refine own_getF C S0 (host := "") (Or.inl (own_wd hw 84 rfl)) Via.refl ps (by decide +kernel) ?_
  intro T159 S160
  refine own_seg C S160 [(5, .iconst 1, 1), (6, .iadd, 1)] (by decide +kernel) 7 #[.val (.ref a)] [(.int ((0 : Int32) + (1 : Int32))), (.ref a)] rfl ?_
  refine own_callP C S160 (own_wd hw 96 rfl) (own_wd hw 97 rfl) (own_wd hw 99 rfl) (own_wd hw 98 rfl) (own_wd hw 100 rfl) (by decide) (own_Met.pay (own_grow1 l Z a0 hw a mc dd kd h0 n0 z0 ge_a pE pm pe ps pD X00 SD od) C 0 (own_wd hw 100 rfl) (own_wd hw 55 rfl) (by decide) (by decide)) (fun _ _ _ q => q.2) pE [(.int ((0 : Int32) + (1 : Int32)))] [] rfl own_pd3 rfl rfl rfl (Nat.le_of_ble_eq_true rfl) (by decide) (by decide) (by decide +kernel) ?_
  rintro T171 h172 v173 L174 S175 ⟨⟨a161, k162, rfl, g163, K164, f165, f166, f167, f168, f169, p170⟩, -⟩
  replace S175 : own_S p l e ({ frames := 2, cells := 1, slots := 10, locals := 60 } : Room) s m #[(.ref a)] below meth c n0 T171 h172 1 10 := S175
  show own_Go p e below s n0 _ _ _ T171 (mkF m 10 #[.val (.ref a)] [(.ref a161)])
  refine own_retA C S175 rfl rfl (by decide +kernel) (by decide) (by decide) ?_
  exact ⟨a161, k162, rfl, (Nat.le_trans (Nat.le_refl _) g163), ((Keep.refl _ _).trans K164 (allS (Or.inl (List.mem_of_getElem? (i := 0) rfl)) all0)), f165, f166, f167, f168, f169, p170⟩
theorem own_pd4 : parseMethodDescriptor "()[Ljava/lang/Object;" = some ⟨[], (some (.array (.object "java/lang/Object")))⟩ := by decide +kernel
set_option maxRecDepth 65536 in
set_option maxHeartbeats 40000000 in
theorem own_add3 (l : Launch) (Z : State) (a0 : Array Value) (hw : ∀ d ∈ tables_1, d.before a0 Z = true) (a : Addr) (mc : Int32) (dd : Addr) (kd : ClassId) (y : Addr) (h0 : Heap) (n0 : Nat) (z0 : n0 ≤ h0.size) (ge_a : n0 ≤ a) (pE : Exa Z h0 a "java/util/ArrayList") (pm : Fld Z h0 a "java/util/AbstractList" "modCount" "I" (.int mc)) (pe : Fld Z h0 a "java/util/ArrayList" "elementData" "[Ljava/lang/Object;" (.ref dd)) (ps : Fld Z h0 a "java/util/ArrayList" "size" "I" (.int (0 : Int32))) (pD : Arv Z h0 dd kd (.object "java/lang/Object") (0 : Int32) ([]) .null) (X00 : Old Z n0 h0) (pY : Exa Z h0 y "com/example/answer_by_role/answerbyrole/engine/ranking/RegressionTree$Node") (SD : Sta Z Z.heap "java/util/ArrayList" "DEFAULTCAPACITY_EMPTY_ELEMENTDATA" "[Ljava/lang/Object;" (.ref dd)) (od : dd < n0) :
    own_Met l Z (⟨"java/util/ArrayList", "add", "(Ljava/lang/Object;[Ljava/lang/Object;I)V"⟩ : MethodName) jdk_38_method_24_code 4 none ({ frames := 3, cells := 1, slots := 10, locals := 80 } : Room) n0 #[(.ref a), (.ref y), (.ref dd), (.int (0 : Int32))] h0 (fun v h => ∃ t : Addr, ∃ kt : ClassId, v = none ∧ h0.size ≤ t ∧ Keep h0 h [a] ∧ Exa Z h a "java/util/ArrayList" ∧ Fld Z h a "java/util/AbstractList" "modCount" "I" (.int mc) ∧ Fld Z h a "java/util/ArrayList" "elementData" "[Ljava/lang/Object;" (.ref t) ∧ Fld Z h a "java/util/ArrayList" "size" "I" (.int (1 : Int32)) ∧ Arv Z h t kt (.object "java/lang/Object") (10 : Int32) ([(.ref y), .null, .null, .null, .null, .null, .null, .null, .null, .null]) .null ∧ Ovr Z kt "java/lang/Object") := by
  refine own_met (by decide +kernel) #[.val (.ref a), .val (.ref y), .val (.ref dd), .val (.int (0 : Int32))] (fun m => by first | rfl | (simp [entryFrame, mkF, argsToLocals, Value.category]; done)) ?_
  intro p e s m below meth c T0 C S0
  refine own_seg C S0 [(0, .iload_n 3, 1), (1, .aload_n 2, 1)] (by decide +kernel) 2 #[.val (.ref a), .val (.ref y), .val (.ref dd), .val (.int (0 : Int32))] [(.ref dd), (.int (0 : Int32))] rfl ?_
  refine own_alen C S0 pD (by decide +kernel) ?_
  refine own_icmp C S0 (q := .ne) (o := 8) (by decide +kernel) 11 (by decide) (by decide) (fun (hq : ¬ (0 : Int32) = (0 : Int32)) => False.elim (hq rfl)) (fun (q176 : (0 : Int32) = (0 : Int32)) => ?_)
  refine own_seg C S0 [(6, .aload_n 0, 1)] (by decide +kernel) 7 #[.val (.ref a), .val (.ref y), .val (.ref dd), .val (.int (0 : Int32))] [(.ref a)] rfl ?_
  refine own_callP C S0 (own_wd hw 91 rfl) (own_wd hw 92 rfl) (own_wd hw 94 rfl) (own_wd hw 93 rfl) (own_wd hw 95 rfl) (by decide) (own_Met.pay (own_grow0 l Z a0 hw a mc dd kd h0 n0 z0 ge_a pE pm pe ps pD X00 SD od) C 0 (own_wd hw 95 rfl) (own_wd hw 55 rfl) (by decide) (by decide)) (fun _ _ _ q => q.2) pE [] [] rfl own_pd4 rfl rfl rfl (Nat.le_of_ble_eq_true rfl) (by decide) (by decide) (by decide +kernel) ?_
  rintro T187 h188 v189 L190 S191 ⟨⟨a177, k178, rfl, g179, K180, f181, f182, f183, f184, f185, p186⟩, -⟩
  replace S191 : own_S p l e ({ frames := 3, cells := 1, slots := 10, locals := 80 } : Room) s m #[(.ref a), (.ref y), (.ref dd), (.int (0 : Int32))] below meth c n0 T187 h188 1 10 := S191
  show own_Go p e below s n0 _ _ _ T187 (mkF m 10 #[.val (.ref a), .val (.ref y), .val (.ref dd), .val (.int (0 : Int32))] [(.ref a177)])
  refine own_seg C S191 [(10, .astore_n 2, 1), (11, .aload_n 2, 1), (12, .iload_n 3, 1), (13, .aload_n 1, 1)] (by decide +kernel) 14 #[.val (.ref a), .val (.ref y), .val (.ref a177), .val (.int (0 : Int32))] [(.ref y), (.int (0 : Int32)), (.ref a177)] rfl ?_
  have g192 : n0 ≤ a177 := Nat.le_trans z0 g179
  have f193 : Exa Z h188 y "com/example/answer_by_role/answerbyrole/engine/ranking/RegressionTree$Node" := (pY.keep K180)
  refine own_aastore C S191 f185 p186 (Ins.of_exa f193 (own_wd hw 107 rfl)) ⟨(by decide), (by decide)⟩ 0 rfl (Nat.le_of_ble_eq_true rfl) g192 (by decide +kernel) ?_
  intro T194 h196 S195 W197 f198
  have f199 : Arv Z h196 a177 k178 (.object "java/lang/Object") (10 : Int32) ([(.ref y), .null, .null, .null, .null, .null, .null, .null, .null, .null]) .null := f198
  refine own_seg C S195 [(15, .aload_n 0, 1), (16, .iload_n 3, 1), (17, .iconst 1, 1), (18, .iadd, 1)] (by decide +kernel) 19 #[.val (.ref a), .val (.ref y), .val (.ref a177), .val (.int (0 : Int32))] [(.int ((0 : Int32) + (1 : Int32))), (.ref a)] rfl ?_
  have n200 : a ≠ a177 := Nat.ne_of_lt (Nat.lt_of_lt_of_le pm.lt g179)
  have f201 : Fld Z h196 a "java/util/ArrayList" "size" "I" (.int (0 : Int32)) := (Fld.other W197 f184 (Or.inl n200))
  have f202 : Exa Z h196 a "java/util/ArrayList" := (Exa.wr W197 f181)
  refine own_putF C S195 (ty := .int) (host := "") (Or.inl (own_wd hw 84 rfl)) Via.refl f201 f202 (Or.inl (own_wd hw 85 rfl)) (own_wd hw 54 rfl) (by decide) rfl rfl ge_a (by decide +kernel) ?_
  intro T203 h205 S204 W206
  have f207 : Fld Z h205 a "java/util/ArrayList" "size" "I" (.int ((0 : Int32) + (1 : Int32))) := Fld.same W206 f201
  refine own_retV C S204 (by decide +kernel) (by decide) (by decide) ?_
  have f208 : Exa Z h205 a "java/util/ArrayList" := (Exa.wr W206 f202)
  have f209 : Fld Z h205 a "java/util/AbstractList" "modCount" "I" (.int mc) := (Fld.other W206 (Fld.other W197 f182 (Or.inl n200)) (Or.inr (slot_ne (t := .int) (t' := .int) (Or.inl (own_wd hw 73 rfl)) (Or.inl (own_wd hw 85 rfl)) (by decide) (by decide) (by decide))))
  have f210 : Fld Z h205 a "java/util/ArrayList" "elementData" "[Ljava/lang/Object;" (.ref a177) := (Fld.other W206 (Fld.other W197 f183 (Or.inl n200)) (Or.inr (slot_ne (t := (.array (.object "java/lang/Object"))) (t' := .int) (Or.inl (own_wd hw 76 rfl)) (Or.inl (own_wd hw 85 rfl)) (by decide) (by decide) (by decide))))
  have f211 : Arv Z h205 a177 k178 (.object "java/lang/Object") (10 : Int32) ([(.ref y), .null, .null, .null, .null, .null, .null, .null, .null, .null]) .null := (f199.other W206 (Ne.symm n200))
  exact ⟨a177, k178, rfl, (Nat.le_trans (Nat.le_refl _) g179), ((((Keep.refl _ _).trans K180 (allS (Or.inl (List.mem_of_getElem? (i := 0) rfl)) all0)).wr W197 (Or.inr (Nat.le_trans (Nat.le_refl _) g179))).wr W206 (Or.inl (List.mem_of_getElem? (i := 0) rfl))), f208, f209, f210, f207, f211, p186⟩
theorem own_pd5 : parseMethodDescriptor "(Ljava/lang/Object;[Ljava/lang/Object;I)V" = some ⟨[(.object "java/lang/Object"), (.array (.object "java/lang/Object")), .int], none⟩ := by decide +kernel
set_option maxRecDepth 65536 in
set_option maxHeartbeats 40000000 in
theorem own_add1 (l : Launch) (Z : State) (a0 : Array Value) (hw : ∀ d ∈ tables_1, d.before a0 Z = true) (a : Addr) (dd : Addr) (kd : ClassId) (y : Addr) (h0 : Heap) (n0 : Nat) (z0 : n0 ≤ h0.size) (ge_a : n0 ≤ a) (pE : Exa Z h0 a "java/util/ArrayList") (pm : Fld Z h0 a "java/util/AbstractList" "modCount" "I" (.int (0 : Int32))) (pe : Fld Z h0 a "java/util/ArrayList" "elementData" "[Ljava/lang/Object;" (.ref dd)) (ps : Fld Z h0 a "java/util/ArrayList" "size" "I" (.int (0 : Int32))) (pD : Arv Z h0 dd kd (.object "java/lang/Object") (0 : Int32) ([]) .null) (X00 : Old Z n0 h0) (pY : Exa Z h0 y "com/example/answer_by_role/answerbyrole/engine/ranking/RegressionTree$Node") (SD : Sta Z Z.heap "java/util/ArrayList" "DEFAULTCAPACITY_EMPTY_ELEMENTDATA" "[Ljava/lang/Object;" (.ref dd)) (od : dd < n0) :
    own_Met l Z (⟨"java/util/ArrayList", "add", "(Ljava/lang/Object;)Z"⟩ : MethodName) jdk_38_method_25_code 2 (some .boolean) ({ frames := 4, cells := 1, slots := 10, locals := 100 } : Room) n0 #[(.ref a), (.ref y)] h0 (fun v h => ∃ t : Addr, ∃ kt : ClassId, v = some (.int (1 : Int32)) ∧ h0.size ≤ t ∧ Keep h0 h [a] ∧ Exa Z h a "java/util/ArrayList" ∧ Fld Z h a "java/util/AbstractList" "modCount" "I" (.int ((0 : Int32) + (1 : Int32))) ∧ Fld Z h a "java/util/ArrayList" "elementData" "[Ljava/lang/Object;" (.ref t) ∧ Fld Z h a "java/util/ArrayList" "size" "I" (.int (1 : Int32)) ∧ Arv Z h t kt (.object "java/lang/Object") (10 : Int32) ([(.ref y), .null, .null, .null, .null, .null, .null, .null, .null, .null]) .null ∧ Ovr Z kt "java/lang/Object") := by
  refine own_met (by decide +kernel) #[.val (.ref a), .val (.ref y)] (fun m => by first | rfl | (simp [entryFrame, mkF, argsToLocals, Value.category]; done)) ?_
  intro p e s m below meth c T0 C S0
  refine own_seg C S0 [(0, .aload_n 0, 1), (1, .dup, 1)] (by decide +kernel) 2 #[.val (.ref a), .val (.ref y)] [(.ref a), (.ref a)] rfl ?_
  refine own_getF C S0 (host := "") (Or.inl (own_wd hw 82 rfl)) (Via.of (own_wd hw 83 rfl)) pm (by decide +kernel) ?_
  intro T212 S213
  refine own_seg C S213 [(5, .iconst 1, 1), (6, .iadd, 1)] (by decide +kernel) 7 #[.val (.ref a), .val (.ref y)] [(.int ((0 : Int32) + (1 : Int32))), (.ref a)] rfl ?_
  refine own_putF C S213 (ty := .int) (host := "") (Or.inl (own_wd hw 82 rfl)) (Via.of (own_wd hw 83 rfl)) pm pE (Or.inl (own_wd hw 73 rfl)) (own_wd hw 54 rfl) (by decide) rfl rfl ge_a (by decide +kernel) ?_
  intro T214 h216 S215 W217
  have f218 : Fld Z h216 a "java/util/AbstractList" "modCount" "I" (.int ((0 : Int32) + (1 : Int32))) := Fld.same W217 pm
  refine own_seg C S215 [(10, .aload_n 0, 1), (11, .aload_n 1, 1), (12, .aload_n 0, 1)] (by decide +kernel) 13 #[.val (.ref a), .val (.ref y)] [(.ref a), (.ref y), (.ref a)] rfl ?_
  have f219 : Fld Z h216 a "java/util/ArrayList" "elementData" "[Ljava/lang/Object;" (.ref dd) := (Fld.other W217 pe (Or.inr (slot_ne (t := (.array (.object "java/lang/Object"))) (t' := .int) (Or.inl (own_wd hw 76 rfl)) (Or.inl (own_wd hw 73 rfl)) (by decide) (by decide) (by decide))))
  refine own_getF C S215 (host := "") (Or.inl (own_wd hw 75 rfl)) Via.refl f219 (by decide +kernel) ?_
  intro T220 S221
  refine own_seg C S221 [(16, .aload_n 0, 1)] (by decide +kernel) 17 #[.val (.ref a), .val (.ref y)] [(.ref a), (.ref dd), (.ref y), (.ref a)] rfl ?_
  have f222 : Fld Z h216 a "java/util/ArrayList" "size" "I" (.int (0 : Int32)) := (Fld.other W217 ps (Or.inr (slot_ne (t := .int) (t' := .int) (Or.inl (own_wd hw 85 rfl)) (Or.inl (own_wd hw 73 rfl)) (by decide) (by decide) (by decide))))
  refine own_getF C S221 (host := "") (Or.inl (own_wd hw 84 rfl)) Via.refl f222 (by decide +kernel) ?_
  intro T223 S224
  have f225 : Exa Z h216 a "java/util/ArrayList" := (Exa.wr W217 pE)
  have f226 : Arv Z h216 dd kd (.object "java/lang/Object") (0 : Int32) ([]) .null := (pD.other W217 (Nat.ne_of_lt (Nat.lt_of_lt_of_le od ge_a)))
  have f227 : Old Z n0 h216 := (X00.wr W217 ge_a)
  have f228 : Exa Z h216 y "com/example/answer_by_role/answerbyrole/engine/ranking/RegressionTree$Node" := (Exa.wr W217 pY)
  have f229 : n0 ≤ h216.size := (by rw [W217.size]; exact z0)
  refine own_callP C S224 (own_wd hw 86 rfl) (own_wd hw 87 rfl) (own_wd hw 89 rfl) (own_wd hw 88 rfl) (own_wd hw 90 rfl) (by decide) (own_Met.pay (own_add3 l Z a0 hw a ((0 : Int32) + (1 : Int32)) dd kd y h216 n0 f229 ge_a f225 f218 f219 f222 f226 f227 f228 SD od) C 0 (own_wd hw 90 rfl) (own_wd hw 55 rfl) (by decide) (by decide)) (fun _ _ _ q => q.2) f225 [(.ref y), (.ref dd), (.int (0 : Int32))] [] rfl own_pd5 rfl rfl rfl (Nat.le_of_ble_eq_true rfl) (by decide) (by decide) (by decide +kernel) ?_
  rintro T240 h241 v242 L243 S244 ⟨⟨a230, k231, rfl, g232, K233, f234, f235, f236, f237, f238, p239⟩, -⟩
  replace S244 : own_S p l e ({ frames := 4, cells := 1, slots := 10, locals := 100 } : Room) s m #[(.ref a), (.ref y)] below meth c n0 T240 h241 1 10 := S244
  show own_Go p e below s n0 _ _ _ T240 (mkF m 23 #[.val (.ref a), .val (.ref y)] [])
  refine own_seg C S244 [(23, .iconst 1, 1)] (by decide +kernel) 24 #[.val (.ref a), .val (.ref y)] [(.int (1 : Int32))] rfl ?_
  refine own_retZ C S244 (by decide +kernel) (by decide) (by decide) (by decide) ?_
  exact ⟨a230, k231, rfl, (Nat.le_trans (by rw [W217.size]; exact (Nat.le_refl _)) g232), (((Keep.refl _ _).wr W217 (Or.inl (List.mem_of_getElem? (i := 0) rfl))).trans K233 (allS (Or.inl (List.mem_of_getElem? (i := 0) rfl)) all0)), f234, f235, f236, f237, f238, p239⟩
set_option maxRecDepth 65536 in
set_option maxHeartbeats 40000000 in
theorem own_emp (l : Launch) (Z : State) (a0 : Array Value) (hw : ∀ d ∈ tables_1, d.before a0 Z = true) (a : Addr) (h0 : Heap) (n0 : Nat) (z0 : n0 ≤ h0.size) (pE : Exa Z h0 a "java/util/ArrayList") (ps : Fld Z h0 a "java/util/ArrayList" "size" "I" (.int (1 : Int32))) :
    own_Met l Z (⟨"java/util/ArrayList", "isEmpty", "()Z"⟩ : MethodName) jdk_38_method_9_code 1 (some .boolean) ({ frames := 0, cells := 0, slots := 0, locals := 0 } : Room) n0 #[(.ref a)] h0 (fun v h => v = some (.int (0 : Int32)) ∧ h = h0) := by
  refine own_met (by decide +kernel) #[.val (.ref a)] (fun m => by first | rfl | (simp [entryFrame, mkF, argsToLocals, Value.category]; done)) ?_
  intro p e s m below meth c T0 C S0
  refine own_seg C S0 [(0, .aload_n 0, 1)] (by decide +kernel) 1 #[.val (.ref a)] [(.ref a)] rfl ?_
  refine own_getF C S0 (host := "") (Or.inl (own_wd hw 84 rfl)) Via.refl ps (by decide +kernel) ?_
  intro T245 S246
  refine own_if C S246 (q := .ne) (o := 7) (by decide +kernel) 11 (by decide) (by decide) (fun (q247 : ¬ (1 : Int32) = (0 : Int32)) => ?_) (fun (hq : (1 : Int32) = (0 : Int32)) => False.elim (absurd hq (by decide)))
  refine own_seg C S246 [(11, .iconst 0, 1)] (by decide +kernel) 12 #[.val (.ref a)] [(.int (0 : Int32))] rfl ?_
  refine own_retZ C S246 (by decide +kernel) (by decide) (by decide) (by decide) ?_
  exact ⟨rfl, rfl⟩
set_option maxRecDepth 65536 in
set_option maxHeartbeats 40000000 in
theorem own_siz (l : Launch) (Z : State) (a0 : Array Value) (hw : ∀ d ∈ tables_1, d.before a0 Z = true) (a : Addr) (h0 : Heap) (n0 : Nat) (z0 : n0 ≤ h0.size) (pE : Exa Z h0 a "java/util/ArrayList") (ps : Fld Z h0 a "java/util/ArrayList" "size" "I" (.int (1 : Int32))) :
    own_Met l Z (⟨"java/util/ArrayList", "size", "()I"⟩ : MethodName) jdk_38_method_8_code 1 (some .int) ({ frames := 0, cells := 0, slots := 0, locals := 0 } : Room) n0 #[(.ref a)] h0 (fun v h => v = some (.int (1 : Int32)) ∧ h = h0) := by
  refine own_met (by decide +kernel) #[.val (.ref a)] (fun m => by first | rfl | (simp [entryFrame, mkF, argsToLocals, Value.category]; done)) ?_
  intro p e s m below meth c T0 C S0
  refine own_seg C S0 [(0, .aload_n 0, 1)] (by decide +kernel) 1 #[.val (.ref a)] [(.ref a)] rfl ?_
  refine own_getF C S0 (host := "") (Or.inl (own_wd hw 84 rfl)) Via.refl ps (by decide +kernel) ?_
  intro T248 S249
  refine own_retI C S249 (by decide +kernel) (by decide) (by decide) ?_
  exact ⟨rfl, rfl⟩
set_option maxRecDepth 65536 in
set_option maxHeartbeats 40000000 in
theorem own_pci (l : Launch) (Z : State) (a0 : Array Value) (hw : ∀ d ∈ tables_1, d.before a0 Z = true) (h0 : Heap) (n0 : Nat) (z0 : n0 ≤ h0.size) :
    own_Met l Z (⟨"jdk/internal/util/Preconditions", "checkIndex", "(IILjava/util/function/BiFunction;)I"⟩ : MethodName) jdk_41_method_11_code 3 (some .int) ({ frames := 0, cells := 0, slots := 0, locals := 0 } : Room) n0 #[(.int (0 : Int32)), (.int (1 : Int32)), .null] h0 (fun v h => v = some (.int (0 : Int32)) ∧ h = h0) := by
  refine own_met (by decide +kernel) #[.val (.int (0 : Int32)), .val (.int (1 : Int32)), .val .null] (fun m => by first | rfl | (simp [entryFrame, mkF, argsToLocals, Value.category]; done)) ?_
  intro p e s m below meth c T0 C S0
  refine own_seg C S0 [(0, .iload_n 0, 1)] (by decide +kernel) 1 #[.val (.int (0 : Int32)), .val (.int (1 : Int32)), .val .null] [(.int (0 : Int32))] rfl ?_
  refine own_if C S0 (q := .lt) (o := 8) (by decide +kernel) 9 (by decide) (by decide) (fun (hq : (0 : Int32) < (0 : Int32)) => False.elim (absurd hq (by decide))) (fun (q250 : ¬ (0 : Int32) < (0 : Int32)) => ?_)
  refine own_seg C S0 [(4, .iload_n 0, 1), (5, .iload_n 1, 1)] (by decide +kernel) 6 #[.val (.int (0 : Int32)), .val (.int (1 : Int32)), .val .null] [(.int (1 : Int32)), (.int (0 : Int32))] rfl ?_
  refine own_icmp C S0 (q := .lt) (o := 10) (by decide +kernel) 16 (by decide) (by decide) (fun (q251 : (0 : Int32) < (1 : Int32)) => ?_) (fun (hq : ¬ (0 : Int32) < (1 : Int32)) => False.elim (absurd hq (by decide)))
  refine own_seg C S0 [(16, .iload_n 0, 1)] (by decide +kernel) 17 #[.val (.int (0 : Int32)), .val (.int (1 : Int32)), .val .null] [(.int (0 : Int32))] rfl ?_
  refine own_retI C S0 (by decide +kernel) (by decide) (by decide) ?_
  exact ⟨rfl, rfl⟩
theorem own_pd6 : parseMethodDescriptor "(IILjava/util/function/BiFunction;)I" = some ⟨[.int, .int, (.object "java/util/function/BiFunction")], (some .int)⟩ := by decide +kernel
set_option maxRecDepth 65536 in
set_option maxHeartbeats 40000000 in
theorem own_oci (l : Launch) (Z : State) (a0 : Array Value) (hw : ∀ d ∈ tables_1, d.before a0 Z = true) (h0 : Heap) (n0 : Nat) (z0 : n0 ≤ h0.size) :
    own_Met l Z (⟨"java/util/Objects", "checkIndex", "(II)I"⟩ : MethodName) jdk_31_method_17_code 2 (some .int) ({ frames := 1, cells := 0, slots := 0, locals := 20 } : Room) n0 #[(.int (0 : Int32)), (.int (1 : Int32))] h0 (fun v h => v = some (.int (0 : Int32)) ∧ h = h0) := by
  refine own_met (by decide +kernel) #[.val (.int (0 : Int32)), .val (.int (1 : Int32))] (fun m => by first | rfl | (simp [entryFrame, mkF, argsToLocals, Value.category]; done)) ?_
  intro p e s m below meth c T0 C S0
  refine own_seg C S0 [(0, .iload_n 0, 1), (1, .iload_n 1, 1), (2, .aconst_null, 1)] (by decide +kernel) 3 #[.val (.int (0 : Int32)), .val (.int (1 : Int32))] [.null, (.int (1 : Int32)), (.int (0 : Int32))] rfl ?_
  refine own_callS C S0 (own_wd hw 143 rfl) (own_wd hw 144 rfl) (own_wd hw 145 rfl) (own_wd hw 146 rfl) (by decide) (own_Met.pay (own_pci l Z a0 hw  h0 n0 z0) C 0 (own_wd hw 146 rfl) (own_wd hw 145 rfl) (by decide) (by decide)) (fun _ _ _ q => q.2) [(.int (0 : Int32)), (.int (1 : Int32)), .null] [] rfl own_pd6 rfl rfl rfl (Nat.le_of_ble_eq_true rfl) (by decide) (by decide) (by decide +kernel) ?_
  rintro T253 h254 v255 L256 S257 ⟨⟨rfl, e252⟩, -⟩
  replace S257 : own_S p l e ({ frames := 1, cells := 0, slots := 0, locals := 20 } : Room) s m #[(.int (0 : Int32)), (.int (1 : Int32))] below meth c n0 T253 h254 0 0 := S257
  rw [e252] at S257; clear e252
  show own_Go p e below s n0 _ _ _ T253 (mkF m 6 #[.val (.int (0 : Int32)), .val (.int (1 : Int32))] [(.int (0 : Int32))])
  refine own_retI C S257 (by decide +kernel) (by decide) (by decide) ?_
  exact ⟨rfl, rfl⟩
set_option maxRecDepth 65536 in
set_option maxHeartbeats 40000000 in
theorem own_eld (l : Launch) (Z : State) (a0 : Array Value) (hw : ∀ d ∈ tables_1, d.before a0 Z = true) (a : Addr) (t : Addr) (kt : ClassId) (y : Addr) (h0 : Heap) (n0 : Nat) (z0 : n0 ≤ h0.size) (pE : Exa Z h0 a "java/util/ArrayList") (pe : Fld Z h0 a "java/util/ArrayList" "elementData" "[Ljava/lang/Object;" (.ref t)) (pT : Arv Z h0 t kt (.object "java/lang/Object") (10 : Int32) ([(.ref y), .null, .null, .null, .null, .null, .null, .null, .null, .null]) .null) :
    own_Met l Z (⟨"java/util/ArrayList", "elementData", "(I)Ljava/lang/Object;"⟩ : MethodName) jdk_38_method_18_code 2 (some (.object "java/lang/Object")) ({ frames := 0, cells := 0, slots := 0, locals := 0 } : Room) n0 #[(.ref a), (.int (0 : Int32))] h0 (fun v h => v = some (.ref y) ∧ h = h0) := by
  refine own_met (by decide +kernel) #[.val (.ref a), .val (.int (0 : Int32))] (fun m => by first | rfl | (simp [entryFrame, mkF, argsToLocals, Value.category]; done)) ?_
  intro p e s m below meth c T0 C S0
  refine own_seg C S0 [(0, .aload_n 0, 1)] (by decide +kernel) 1 #[.val (.ref a), .val (.int (0 : Int32))] [(.ref a)] rfl ?_
  refine own_getF C S0 (host := "") (Or.inl (own_wd hw 75 rfl)) Via.refl pe (by decide +kernel) ?_
  intro T258 S259
  refine own_seg C S259 [(4, .iload_n 1, 1)] (by decide +kernel) 5 #[.val (.ref a), .val (.int (0 : Int32))] [(.int (0 : Int32)), (.ref t)] rfl ?_
  refine own_aaload C S259 pT rfl ⟨(by decide), (by decide)⟩ (.ref y) rfl (by decide +kernel) ?_
  refine own_retA C S259 rfl rfl (by decide +kernel) (by decide) (by decide) ?_
  exact ⟨rfl, rfl⟩
theorem own_pd7 : parseMethodDescriptor "(I)Ljava/lang/Object;" = some ⟨[.int], (some (.object "java/lang/Object"))⟩ := by decide +kernel
set_option maxRecDepth 65536 in
set_option maxHeartbeats 40000000 in
theorem own_get (l : Launch) (Z : State) (a0 : Array Value) (hw : ∀ d ∈ tables_1, d.before a0 Z = true) (a : Addr) (t : Addr) (kt : ClassId) (y : Addr) (h0 : Heap) (n0 : Nat) (z0 : n0 ≤ h0.size) (pE : Exa Z h0 a "java/util/ArrayList") (ps : Fld Z h0 a "java/util/ArrayList" "size" "I" (.int (1 : Int32))) (pe : Fld Z h0 a "java/util/ArrayList" "elementData" "[Ljava/lang/Object;" (.ref t)) (pT : Arv Z h0 t kt (.object "java/lang/Object") (10 : Int32) ([(.ref y), .null, .null, .null, .null, .null, .null, .null, .null, .null]) .null) :
    own_Met l Z (⟨"java/util/ArrayList", "get", "(I)Ljava/lang/Object;"⟩ : MethodName) jdk_38_method_20_code 2 (some (.object "java/lang/Object")) ({ frames := 2, cells := 0, slots := 0, locals := 40 } : Room) n0 #[(.ref a), (.int (0 : Int32))] h0 (fun v h => v = some (.ref y) ∧ h = h0) := by
  refine own_met (by decide +kernel) #[.val (.ref a), .val (.int (0 : Int32))] (fun m => by first | rfl | (simp [entryFrame, mkF, argsToLocals, Value.category]; done)) ?_
  intro p e s m below meth c T0 C S0
  refine own_seg C S0 [(0, .iload_n 1, 1), (1, .aload_n 0, 1)] (by decide +kernel) 2 #[.val (.ref a), .val (.int (0 : Int32))] [(.ref a), (.int (0 : Int32))] rfl ?_
  refine own_getF C S0 (host := "") (Or.inl (own_wd hw 84 rfl)) Via.refl ps (by decide +kernel) ?_
  intro T260 S261
  refine own_callS C S261 (own_wd hw 139 rfl) (own_wd hw 140 rfl) (own_wd hw 141 rfl) (own_wd hw 142 rfl) (by decide) (own_Met.pay (own_oci l Z a0 hw  h0 n0 z0) C 0 (own_wd hw 142 rfl) (own_wd hw 141 rfl) (by decide) (by decide)) (fun _ _ _ q => q.2) [(.int (0 : Int32)), (.int (1 : Int32))] [] rfl own_pd2 rfl rfl rfl (Nat.le_of_ble_eq_true rfl) (by decide) (by decide) (by decide +kernel) ?_
  rintro T263 h264 v265 L266 S267 ⟨⟨rfl, e262⟩, -⟩
  replace S267 : own_S p l e ({ frames := 2, cells := 0, slots := 0, locals := 40 } : Room) s m #[(.ref a), (.int (0 : Int32))] below meth c n0 T263 h264 0 0 := S267
  rw [e262] at S267; clear e262
  show own_Go p e below s n0 _ _ _ T263 (mkF m 8 #[.val (.ref a), .val (.int (0 : Int32))] [(.int (0 : Int32))])
  refine own_seg C S267 [(8, .pop, 1), (9, .aload_n 0, 1), (10, .iload_n 1, 1)] (by decide +kernel) 11 #[.val (.ref a), .val (.int (0 : Int32))] [(.int (0 : Int32)), (.ref a)] rfl ?_
  refine own_callV C S267 (own_wd hw 147 rfl) (own_wd hw 148 rfl) (own_wd hw 150 rfl) (own_wd hw 150 rfl) (own_wd hw 149 rfl) (by decide) (own_Met.pay (own_eld l Z a0 hw a t kt y h0 n0 z0 pE pe pT) C 0 (own_wd hw 151 rfl) (own_wd hw 55 rfl) (by decide) (by decide)) (fun _ _ _ q => q.2) pE [(.int (0 : Int32))] [] rfl own_pd7 rfl rfl rfl (Nat.le_of_ble_eq_true rfl) (by decide) (by decide) (by decide +kernel) ?_
  rintro T269 h270 v271 L272 S273 ⟨⟨rfl, e268⟩, -⟩
  replace S273 : own_S p l e ({ frames := 2, cells := 0, slots := 0, locals := 40 } : Room) s m #[(.ref a), (.int (0 : Int32))] below meth c n0 T269 h270 0 0 := S273
  rw [e268] at S273; clear e268
  show own_Go p e below s n0 _ _ _ T269 (mkF m 14 #[.val (.ref a), .val (.int (0 : Int32))] [(.ref y)])
  refine own_retA C S273 rfl rfl (by decide +kernel) (by decide) (by decide) ?_
  exact ⟨rfl, rfl⟩
set_option maxRecDepth 65536 in
set_option maxHeartbeats 40000000 in
theorem own_rini (l : Launch) (Z : State) (a0 : Array Value) (hw : ∀ d ∈ tables_1, d.before a0 Z = true) (a : Addr) (x1 : Addr) (x2 : Addr) (x3 : Addr) (x4 : Addr) (x5 : Addr) (h0 : Heap) (n0 : Nat) (z0 : n0 ≤ h0.size) (ge_a : n0 ≤ a) (pE : Exa Z h0 a "com/example/answer_by_role/answerbyrole/engine/ranking/RegressionTree") (p_measures : Fld Z h0 a "com/example/answer_by_role/answerbyrole/engine/ranking/RegressionTree" "measures" "[I" .null) (p_thresholds : Fld Z h0 a "com/example/answer_by_role/answerbyrole/engine/ranking/RegressionTree" "thresholds" "[D" .null) (p_below : Fld Z h0 a "com/example/answer_by_role/answerbyrole/engine/ranking/RegressionTree" "below" "[I" .null) (p_above : Fld Z h0 a "com/example/answer_by_role/answerbyrole/engine/ranking/RegressionTree" "above" "[I" .null) (p_scores : Fld Z h0 a "com/example/answer_by_role/answerbyrole/engine/ranking/RegressionTree" "scores" "[D" .null) :
    own_Met l Z (⟨"com/example/answer_by_role/answerbyrole/engine/ranking/RegressionTree", "<init>", "([I[D[I[I[D)V"⟩ : MethodName) prog_28_method_1_code 6 none ({ frames := 1, cells := 0, slots := 0, locals := 12 } : Room) n0 #[(.ref a), (.ref x1), (.ref x2), (.ref x3), (.ref x4), (.ref x5)] h0 (fun v h => v = none ∧ Keep h0 h [a] ∧ Exa Z h a "com/example/answer_by_role/answerbyrole/engine/ranking/RegressionTree" ∧ Fld Z h a "com/example/answer_by_role/answerbyrole/engine/ranking/RegressionTree" "measures" "[I" (.ref x1) ∧ Fld Z h a "com/example/answer_by_role/answerbyrole/engine/ranking/RegressionTree" "thresholds" "[D" (.ref x2) ∧ Fld Z h a "com/example/answer_by_role/answerbyrole/engine/ranking/RegressionTree" "below" "[I" (.ref x3) ∧ Fld Z h a "com/example/answer_by_role/answerbyrole/engine/ranking/RegressionTree" "above" "[I" (.ref x4) ∧ Fld Z h a "com/example/answer_by_role/answerbyrole/engine/ranking/RegressionTree" "scores" "[D" (.ref x5)) := by
  refine own_met (by decide +kernel) #[.val (.ref a), .val (.ref x1), .val (.ref x2), .val (.ref x3), .val (.ref x4), .val (.ref x5)] (fun m => by first | rfl | (simp [entryFrame, mkF, argsToLocals, Value.category]; done)) ?_
  intro p e s m below meth c T0 C S0
  refine own_seg C S0 [(0, .aload_n 0, 1)] (by decide +kernel) 1 #[.val (.ref a), .val (.ref x1), .val (.ref x2), .val (.ref x3), .val (.ref x4), .val (.ref x5)] [(.ref a)] rfl ?_
  refine own_initO C S0 (own_wd hw 164 rfl) (own_wd hw 16 rfl) (own_wd hw 17 rfl) rfl (by decide +kernel) (by decide) 0 (Nat.le_of_ble_eq_true rfl) (by decide) ?_
  intro T274 S275
  refine own_seg C S275 [(4, .aload_n 0, 1), (5, .aload_n 1, 1)] (by decide +kernel) 6 #[.val (.ref a), .val (.ref x1), .val (.ref x2), .val (.ref x3), .val (.ref x4), .val (.ref x5)] [(.ref x1), (.ref a)] rfl ?_
  refine own_putF C S275 (ty := (.array .int)) (host := "") (Or.inl (own_wd hw 165 rfl)) Via.refl p_measures pE (Or.inr ⟨(own_wd hw 166 rfl), rfl, rfl⟩) (own_wd hw 160 rfl) (by decide) rfl rfl ge_a (by decide +kernel) ?_
  intro T276 h278 S277 W279
  have f280 : Fld Z h278 a "com/example/answer_by_role/answerbyrole/engine/ranking/RegressionTree" "measures" "[I" (.ref x1) := Fld.same W279 p_measures
  refine own_seg C S277 [(9, .aload_n 0, 1), (10, .aload_n 2, 1)] (by decide +kernel) 11 #[.val (.ref a), .val (.ref x1), .val (.ref x2), .val (.ref x3), .val (.ref x4), .val (.ref x5)] [(.ref x2), (.ref a)] rfl ?_
  have f281 : Fld Z h278 a "com/example/answer_by_role/answerbyrole/engine/ranking/RegressionTree" "thresholds" "[D" .null := (Fld.other W279 p_thresholds (Or.inr (slot_ne (t := (.array .double)) (t' := (.array .int)) (Or.inr (own_wd hw 168 rfl)) (Or.inr (own_wd hw 166 rfl)) (by decide) (by decide) (by decide))))
  have f282 : Exa Z h278 a "com/example/answer_by_role/answerbyrole/engine/ranking/RegressionTree" := (Exa.wr W279 pE)
  refine own_putF C S277 (ty := (.array .double)) (host := "") (Or.inl (own_wd hw 167 rfl)) Via.refl f281 f282 (Or.inr ⟨(own_wd hw 168 rfl), rfl, rfl⟩) (own_wd hw 160 rfl) (by decide) rfl rfl ge_a (by decide +kernel) ?_
  intro T283 h285 S284 W286
  have f287 : Fld Z h285 a "com/example/answer_by_role/answerbyrole/engine/ranking/RegressionTree" "thresholds" "[D" (.ref x2) := Fld.same W286 f281
  refine own_seg C S284 [(14, .aload_n 0, 1), (15, .aload_n 3, 1)] (by decide +kernel) 16 #[.val (.ref a), .val (.ref x1), .val (.ref x2), .val (.ref x3), .val (.ref x4), .val (.ref x5)] [(.ref x3), (.ref a)] rfl ?_
  have f288 : Fld Z h285 a "com/example/answer_by_role/answerbyrole/engine/ranking/RegressionTree" "below" "[I" .null := (Fld.other W286 (Fld.other W279 p_below (Or.inr (slot_ne (t := (.array .int)) (t' := (.array .int)) (Or.inr (own_wd hw 170 rfl)) (Or.inr (own_wd hw 166 rfl)) (by decide) (by decide) (by decide)))) (Or.inr (slot_ne (t := (.array .int)) (t' := (.array .double)) (Or.inr (own_wd hw 170 rfl)) (Or.inr (own_wd hw 168 rfl)) (by decide) (by decide) (by decide))))
  have f289 : Exa Z h285 a "com/example/answer_by_role/answerbyrole/engine/ranking/RegressionTree" := (Exa.wr W286 f282)
  refine own_putF C S284 (ty := (.array .int)) (host := "") (Or.inl (own_wd hw 169 rfl)) Via.refl f288 f289 (Or.inr ⟨(own_wd hw 170 rfl), rfl, rfl⟩) (own_wd hw 160 rfl) (by decide) rfl rfl ge_a (by decide +kernel) ?_
  intro T290 h292 S291 W293
  have f294 : Fld Z h292 a "com/example/answer_by_role/answerbyrole/engine/ranking/RegressionTree" "below" "[I" (.ref x3) := Fld.same W293 f288
  refine own_seg C S291 [(19, .aload_n 0, 1), (20, .aload 4, 2)] (by decide +kernel) 22 #[.val (.ref a), .val (.ref x1), .val (.ref x2), .val (.ref x3), .val (.ref x4), .val (.ref x5)] [(.ref x4), (.ref a)] rfl ?_
  have f295 : Fld Z h292 a "com/example/answer_by_role/answerbyrole/engine/ranking/RegressionTree" "above" "[I" .null := (Fld.other W293 (Fld.other W286 (Fld.other W279 p_above (Or.inr (slot_ne (t := (.array .int)) (t' := (.array .int)) (Or.inr (own_wd hw 172 rfl)) (Or.inr (own_wd hw 166 rfl)) (by decide) (by decide) (by decide)))) (Or.inr (slot_ne (t := (.array .int)) (t' := (.array .double)) (Or.inr (own_wd hw 172 rfl)) (Or.inr (own_wd hw 168 rfl)) (by decide) (by decide) (by decide)))) (Or.inr (slot_ne (t := (.array .int)) (t' := (.array .int)) (Or.inr (own_wd hw 172 rfl)) (Or.inr (own_wd hw 170 rfl)) (by decide) (by decide) (by decide))))
  have f296 : Exa Z h292 a "com/example/answer_by_role/answerbyrole/engine/ranking/RegressionTree" := (Exa.wr W293 f289)
  refine own_putF C S291 (ty := (.array .int)) (host := "") (Or.inl (own_wd hw 171 rfl)) Via.refl f295 f296 (Or.inr ⟨(own_wd hw 172 rfl), rfl, rfl⟩) (own_wd hw 160 rfl) (by decide) rfl rfl ge_a (by decide +kernel) ?_
  intro T297 h299 S298 W300
  have f301 : Fld Z h299 a "com/example/answer_by_role/answerbyrole/engine/ranking/RegressionTree" "above" "[I" (.ref x4) := Fld.same W300 f295
  refine own_seg C S298 [(25, .aload_n 0, 1), (26, .aload 5, 2)] (by decide +kernel) 28 #[.val (.ref a), .val (.ref x1), .val (.ref x2), .val (.ref x3), .val (.ref x4), .val (.ref x5)] [(.ref x5), (.ref a)] rfl ?_
  have f302 : Fld Z h299 a "com/example/answer_by_role/answerbyrole/engine/ranking/RegressionTree" "scores" "[D" .null := (Fld.other W300 (Fld.other W293 (Fld.other W286 (Fld.other W279 p_scores (Or.inr (slot_ne (t := (.array .double)) (t' := (.array .int)) (Or.inr (own_wd hw 174 rfl)) (Or.inr (own_wd hw 166 rfl)) (by decide) (by decide) (by decide)))) (Or.inr (slot_ne (t := (.array .double)) (t' := (.array .double)) (Or.inr (own_wd hw 174 rfl)) (Or.inr (own_wd hw 168 rfl)) (by decide) (by decide) (by decide)))) (Or.inr (slot_ne (t := (.array .double)) (t' := (.array .int)) (Or.inr (own_wd hw 174 rfl)) (Or.inr (own_wd hw 170 rfl)) (by decide) (by decide) (by decide)))) (Or.inr (slot_ne (t := (.array .double)) (t' := (.array .int)) (Or.inr (own_wd hw 174 rfl)) (Or.inr (own_wd hw 172 rfl)) (by decide) (by decide) (by decide))))
  have f303 : Exa Z h299 a "com/example/answer_by_role/answerbyrole/engine/ranking/RegressionTree" := (Exa.wr W300 f296)
  refine own_putF C S298 (ty := (.array .double)) (host := "") (Or.inl (own_wd hw 173 rfl)) Via.refl f302 f303 (Or.inr ⟨(own_wd hw 174 rfl), rfl, rfl⟩) (own_wd hw 160 rfl) (by decide) rfl rfl ge_a (by decide +kernel) ?_
  intro T304 h306 S305 W307
  have f308 : Fld Z h306 a "com/example/answer_by_role/answerbyrole/engine/ranking/RegressionTree" "scores" "[D" (.ref x5) := Fld.same W307 f302
  refine own_retV C S305 (by decide +kernel) (by decide) (by decide) ?_
  have f309 : Exa Z h306 a "com/example/answer_by_role/answerbyrole/engine/ranking/RegressionTree" := (Exa.wr W307 f303)
  have f310 : Fld Z h306 a "com/example/answer_by_role/answerbyrole/engine/ranking/RegressionTree" "measures" "[I" (.ref x1) := (Fld.other W307 (Fld.other W300 (Fld.other W293 (Fld.other W286 f280 (Or.inr (slot_ne (t := (.array .int)) (t' := (.array .double)) (Or.inr (own_wd hw 166 rfl)) (Or.inr (own_wd hw 168 rfl)) (by decide) (by decide) (by decide)))) (Or.inr (slot_ne (t := (.array .int)) (t' := (.array .int)) (Or.inr (own_wd hw 166 rfl)) (Or.inr (own_wd hw 170 rfl)) (by decide) (by decide) (by decide)))) (Or.inr (slot_ne (t := (.array .int)) (t' := (.array .int)) (Or.inr (own_wd hw 166 rfl)) (Or.inr (own_wd hw 172 rfl)) (by decide) (by decide) (by decide)))) (Or.inr (slot_ne (t := (.array .int)) (t' := (.array .double)) (Or.inr (own_wd hw 166 rfl)) (Or.inr (own_wd hw 174 rfl)) (by decide) (by decide) (by decide))))
  have f311 : Fld Z h306 a "com/example/answer_by_role/answerbyrole/engine/ranking/RegressionTree" "thresholds" "[D" (.ref x2) := (Fld.other W307 (Fld.other W300 (Fld.other W293 f287 (Or.inr (slot_ne (t := (.array .double)) (t' := (.array .int)) (Or.inr (own_wd hw 168 rfl)) (Or.inr (own_wd hw 170 rfl)) (by decide) (by decide) (by decide)))) (Or.inr (slot_ne (t := (.array .double)) (t' := (.array .int)) (Or.inr (own_wd hw 168 rfl)) (Or.inr (own_wd hw 172 rfl)) (by decide) (by decide) (by decide)))) (Or.inr (slot_ne (t := (.array .double)) (t' := (.array .double)) (Or.inr (own_wd hw 168 rfl)) (Or.inr (own_wd hw 174 rfl)) (by decide) (by decide) (by decide))))
  have f312 : Fld Z h306 a "com/example/answer_by_role/answerbyrole/engine/ranking/RegressionTree" "below" "[I" (.ref x3) := (Fld.other W307 (Fld.other W300 f294 (Or.inr (slot_ne (t := (.array .int)) (t' := (.array .int)) (Or.inr (own_wd hw 170 rfl)) (Or.inr (own_wd hw 172 rfl)) (by decide) (by decide) (by decide)))) (Or.inr (slot_ne (t := (.array .int)) (t' := (.array .double)) (Or.inr (own_wd hw 170 rfl)) (Or.inr (own_wd hw 174 rfl)) (by decide) (by decide) (by decide))))
  have f313 : Fld Z h306 a "com/example/answer_by_role/answerbyrole/engine/ranking/RegressionTree" "above" "[I" (.ref x4) := (Fld.other W307 f301 (Or.inr (slot_ne (t := (.array .int)) (t' := (.array .double)) (Or.inr (own_wd hw 172 rfl)) (Or.inr (own_wd hw 174 rfl)) (by decide) (by decide) (by decide))))
  exact ⟨rfl, ((((((Keep.refl _ _).wr W279 (Or.inl (List.mem_of_getElem? (i := 0) rfl))).wr W286 (Or.inl (List.mem_of_getElem? (i := 0) rfl))).wr W293 (Or.inl (List.mem_of_getElem? (i := 0) rfl))).wr W300 (Or.inl (List.mem_of_getElem? (i := 0) rfl))).wr W307 (Or.inl (List.mem_of_getElem? (i := 0) rfl))), f309, f310, f311, f312, f313, f308⟩
theorem own_pd8 : parseMethodDescriptor "()Z" = some ⟨[], (some .boolean)⟩ := by decide +kernel
theorem own_pd9 : parseMethodDescriptor "()I" = some ⟨[], (some .int)⟩ := by decide +kernel
theorem own_pd10 : parseMethodDescriptor "()D" = some ⟨[], (some .double)⟩ := by decide +kernel
theorem own_pd11 : parseMethodDescriptor "([I[D[I[I[D)V" = some ⟨[(.array .int), (.array .double), (.array .int), (.array .int), (.array .double)], none⟩ := by decide +kernel
set_option maxRecDepth 65536 in
set_option maxHeartbeats 40000000 in
theorem own_of (l : Launch) (Z : State) (a0 : Array Value) (hw : ∀ d ∈ tables_1, d.before a0 Z = true) (a : Addr) (t : Addr) (kt : ClassId) (y : Addr) (sc : UInt64) (h0 : Heap) (n0 : Nat) (z0 : n0 ≤ h0.size) (pE : Exa Z h0 a "java/util/ArrayList") (ps : Fld Z h0 a "java/util/ArrayList" "size" "I" (.int (1 : Int32))) (pe : Fld Z h0 a "java/util/ArrayList" "elementData" "[Ljava/lang/Object;" (.ref t)) (pT : Arv Z h0 t kt (.object "java/lang/Object") (10 : Int32) ([(.ref y), .null, .null, .null, .null, .null, .null, .null, .null, .null]) .null) (pY : Exa Z h0 y "com/example/answer_by_role/answerbyrole/engine/ranking/RegressionTree$Node") (p_measure : Fld Z h0 y "com/example/answer_by_role/answerbyrole/engine/ranking/RegressionTree$Node" "measure" "I" (.int (-1 : Int32))) (p_threshold : Fld Z h0 y "com/example/answer_by_role/answerbyrole/engine/ranking/RegressionTree$Node" "threshold" "D" (.double 0)) (p_below : Fld Z h0 y "com/example/answer_by_role/answerbyrole/engine/ranking/RegressionTree$Node" "below" "I" (.int (-1 : Int32))) (p_above : Fld Z h0 y "com/example/answer_by_role/answerbyrole/engine/ranking/RegressionTree$Node" "above" "I" (.int (-1 : Int32))) (p_score : Fld Z h0 y "com/example/answer_by_role/answerbyrole/engine/ranking/RegressionTree$Node" "score" "D" (.double sc)) :
    own_Met l Z (⟨"com/example/answer_by_role/answerbyrole/engine/ranking/RegressionTree", "of", "(Ljava/util/List;)Lcom/example/answer_by_role/answerbyrole/engine/ranking/RegressionTree;"⟩ : MethodName) prog_28_method_2_code 10 (some (.object "com/example/answer_by_role/answerbyrole/engine/ranking/RegressionTree")) ({ frames := 4, cells := 6, slots := 10, locals := 120 } : Room) n0 #[(.ref a)] h0 (fun v h => ∃ r : Addr, ∃ mm : Addr, ∃ km : ClassId, ∃ ss : Addr, ∃ kss : ClassId, v = some (.ref r) ∧ h0.size ≤ r ∧ Keep h0 h [] ∧ Exa Z h r "com/example/answer_by_role/answerbyrole/engine/ranking/RegressionTree" ∧ Fld Z h r "com/example/answer_by_role/answerbyrole/engine/ranking/RegressionTree" "measures" "[I" (.ref mm) ∧ Fld Z h r "com/example/answer_by_role/answerbyrole/engine/ranking/RegressionTree" "scores" "[D" (.ref ss) ∧ Arv Z h mm km .int (1 : Int32) ([(.int (-1 : Int32))]) (.int (0 : Int32)) ∧ Arv Z h ss kss .double (1 : Int32) ([(.double sc)]) (.double 0)) := by
  refine own_met (by decide +kernel) #[.val (.ref a), .unset, .unset, .unset, .unset, .unset, .unset, .unset, .unset, .unset] (fun m => by first | rfl | (simp [entryFrame, mkF, argsToLocals, Value.category]; done)) ?_
  intro p e s m below meth c T0 C S0
  refine own_seg C S0 [(0, .aload_n 0, 1)] (by decide +kernel) 1 #[.val (.ref a), .unset, .unset, .unset, .unset, .unset, .unset, .unset, .unset, .unset] [(.ref a)] rfl ?_
  refine own_callF C S0 (count := 1) (own_wd hw 112 rfl) (own_wd hw 113 rfl) (own_wd hw 114 rfl) rfl (own_wd hw 115 rfl) (own_wd hw 116 rfl) (own_wd hw 117 rfl) (own_wd hw 118 rfl) (own_wd hw 119 rfl) (by decide) (own_Met.pay (own_emp l Z a0 hw a h0 n0 z0 pE ps) C 0 (own_wd hw 120 rfl) (own_wd hw 55 rfl) (by decide) (by decide)) (fun _ _ _ q => q.2) pE [] [] rfl own_pd8 rfl rfl rfl (Nat.le_of_ble_eq_true rfl) (by decide) (by decide) (by decide +kernel) ?_
  rintro T315 h316 v317 L318 S319 ⟨⟨rfl, e314⟩, -⟩
  replace S319 : own_S p l e ({ frames := 4, cells := 6, slots := 10, locals := 120 } : Room) s m #[(.ref a)] below meth c n0 T315 h316 0 0 := S319
  rw [e314] at S319; clear e314
  show own_Go p e below s n0 _ _ _ T315 (mkF m 6 #[.val (.ref a), .unset, .unset, .unset, .unset, .unset, .unset, .unset, .unset, .unset] [(.int (0 : Int32))])
  refine own_if C S319 (q := .eq) (o := 13) (by decide +kernel) 19 (by decide) (by decide) (fun (q320 : (0 : Int32) = (0 : Int32)) => ?_) (fun (hq : ¬ (0 : Int32) = (0 : Int32)) => False.elim (absurd hq (by decide)))
  refine own_seg C S319 [(19, .aload_n 0, 1)] (by decide +kernel) 20 #[.val (.ref a), .unset, .unset, .unset, .unset, .unset, .unset, .unset, .unset, .unset] [(.ref a)] rfl ?_
  refine own_callF C S319 (count := 1) (own_wd hw 121 rfl) (own_wd hw 122 rfl) (own_wd hw 123 rfl) rfl (own_wd hw 124 rfl) (own_wd hw 125 rfl) (own_wd hw 126 rfl) (own_wd hw 127 rfl) (own_wd hw 119 rfl) (by decide) (own_Met.pay (own_siz l Z a0 hw a h0 n0 z0 pE ps) C 0 (own_wd hw 128 rfl) (own_wd hw 55 rfl) (by decide) (by decide)) (fun _ _ _ q => q.2) pE [] [] rfl own_pd9 rfl rfl rfl (Nat.le_of_ble_eq_true rfl) (by decide) (by decide) (by decide +kernel) ?_
  rintro T322 h323 v324 L325 S326 ⟨⟨rfl, e321⟩, -⟩
  replace S326 : own_S p l e ({ frames := 4, cells := 6, slots := 10, locals := 120 } : Room) s m #[(.ref a)] below meth c n0 T322 h323 0 0 := S326
  rw [e321] at S326; clear e321
  show own_Go p e below s n0 _ _ _ T322 (mkF m 25 #[.val (.ref a), .unset, .unset, .unset, .unset, .unset, .unset, .unset, .unset, .unset] [(.int (1 : Int32))])
  refine own_seg C S326 [(25, .istore_n 1, 1), (26, .iload_n 1, 1)] (by decide +kernel) 27 #[.val (.ref a), .val (.int (1 : Int32)), .unset, .unset, .unset, .unset, .unset, .unset, .unset, .unset] [(.int (1 : Int32))] rfl ?_
  refine own_newP C S326 (aty := .int) (own_wd hw 129 rfl) (by decide +kernel) (by decide) 1 (by decide) (by decide) (by decide) (by decide) ?_
  intro T327 h329 a330 k331 S328 g332 E333 f334
  have f335 : Arv Z h329 a330 k331 .int (1 : Int32) ([(.int (0 : Int32))]) (.int (0 : Int32)) := Arv.pad f334 (pad_rep [] (.int (0 : Int32)) 1)
  refine own_seg C S328 [(29, .astore_n 2, 1), (30, .iload_n 1, 1)] (by decide +kernel) 31 #[.val (.ref a), .val (.int (1 : Int32)), .val (.ref a330), .unset, .unset, .unset, .unset, .unset, .unset, .unset] [(.int (1 : Int32))] rfl ?_
  refine own_newP C S328 (aty := .double) (own_wd hw 130 rfl) (by decide +kernel) (by decide) 1 (by decide) (by decide) (by decide) (by decide) ?_
  intro T336 h338 a339 k340 S337 g341 E342 f343
  have f344 : Arv Z h338 a339 k340 .double (1 : Int32) ([(.double 0)]) (.double 0) := Arv.pad f343 (pad_rep [] (.double 0) 1)
  refine own_seg C S337 [(33, .astore_n 3, 1), (34, .iload_n 1, 1)] (by decide +kernel) 35 #[.val (.ref a), .val (.int (1 : Int32)), .val (.ref a330), .val (.ref a339), .unset, .unset, .unset, .unset, .unset, .unset] [(.int (1 : Int32))] rfl ?_
  refine own_newP C S337 (aty := .int) (own_wd hw 129 rfl) (by decide +kernel) (by decide) 1 (by decide) (by decide) (by decide) (by decide) ?_
  intro T345 h347 a348 k349 S346 g350 E351 f352
  have f353 : Arv Z h347 a348 k349 .int (1 : Int32) ([(.int (0 : Int32))]) (.int (0 : Int32)) := Arv.pad f352 (pad_rep [] (.int (0 : Int32)) 1)
  refine own_seg C S346 [(37, .astore 4, 2), (39, .iload_n 1, 1)] (by decide +kernel) 40 #[.val (.ref a), .val (.int (1 : Int32)), .val (.ref a330), .val (.ref a339), .val (.ref a348), .unset, .unset, .unset, .unset, .unset] [(.int (1 : Int32))] rfl ?_
  refine own_newP C S346 (aty := .int) (own_wd hw 129 rfl) (by decide +kernel) (by decide) 1 (by decide) (by decide) (by decide) (by decide) ?_
  intro T354 h356 a357 k358 S355 g359 E360 f361
  have f362 : Arv Z h356 a357 k358 .int (1 : Int32) ([(.int (0 : Int32))]) (.int (0 : Int32)) := Arv.pad f361 (pad_rep [] (.int (0 : Int32)) 1)
  refine own_seg C S355 [(42, .astore 5, 2), (44, .iload_n 1, 1)] (by decide +kernel) 45 #[.val (.ref a), .val (.int (1 : Int32)), .val (.ref a330), .val (.ref a339), .val (.ref a348), .val (.ref a357), .unset, .unset, .unset, .unset] [(.int (1 : Int32))] rfl ?_
  refine own_newP C S355 (aty := .double) (own_wd hw 130 rfl) (by decide +kernel) (by decide) 1 (by decide) (by decide) (by decide) (by decide) ?_
  intro T363 h365 a366 k367 S364 g368 E369 f370
  have f371 : Arv Z h365 a366 k367 .double (1 : Int32) ([(.double 0)]) (.double 0) := Arv.pad f370 (pad_rep [] (.double 0) 1)
  refine own_seg C S364 [(47, .astore 6, 2), (49, .iconst 0, 1), (50, .istore 7, 2), (52, .iload 7, 2), (54, .iload_n 1, 1)] (by decide +kernel) 55 #[.val (.ref a), .val (.int (1 : Int32)), .val (.ref a330), .val (.ref a339), .val (.ref a348), .val (.ref a357), .val (.ref a366), .val (.int (0 : Int32)), .unset, .unset] [(.int (1 : Int32)), (.int (0 : Int32))] rfl ?_
  refine own_icmp C S364 (q := .ge) (o := 143) (by decide +kernel) 198 (by decide) (by decide) (fun (hq : ¬ (0 : Int32) < (1 : Int32)) => False.elim (absurd hq (by decide))) (fun (q372 : (0 : Int32) < (1 : Int32)) => ?_)
  refine own_seg C S364 [(58, .aload_n 0, 1), (59, .iload 7, 2)] (by decide +kernel) 61 #[.val (.ref a), .val (.int (1 : Int32)), .val (.ref a330), .val (.ref a339), .val (.ref a348), .val (.ref a357), .val (.ref a366), .val (.int (0 : Int32)), .unset, .unset] [(.int (0 : Int32)), (.ref a)] rfl ?_
  have f373 : Exa Z h365 a "java/util/ArrayList" := (Exa.ext E369 (Exa.ext E360 (Exa.ext E351 (Exa.ext E342 (Exa.ext E333 pE)))))
  have f374 : Fld Z h365 a "java/util/ArrayList" "size" "I" (.int (1 : Int32)) := (Fld.ext E369 (Fld.ext E360 (Fld.ext E351 (Fld.ext E342 (Fld.ext E333 ps)))))
  have f375 : Fld Z h365 a "java/util/ArrayList" "elementData" "[Ljava/lang/Object;" (.ref t) := (Fld.ext E369 (Fld.ext E360 (Fld.ext E351 (Fld.ext E342 (Fld.ext E333 pe)))))
  have f376 : Arv Z h365 t kt (.object "java/lang/Object") (10 : Int32) ([(.ref y), .null, .null, .null, .null, .null, .null, .null, .null, .null]) .null := (((((pT.ext E333).ext E342).ext E351).ext E360).ext E369)
  have f377 : n0 ≤ h365.size := (Nat.le_trans (Nat.le_trans (Nat.le_trans (Nat.le_trans (Nat.le_trans z0 E333.1) E342.1) E351.1) E360.1) E369.1)
  refine own_callF C S364 (count := 2) (own_wd hw 131 rfl) (own_wd hw 132 rfl) (own_wd hw 133 rfl) rfl (own_wd hw 134 rfl) (own_wd hw 135 rfl) (own_wd hw 136 rfl) (own_wd hw 137 rfl) (own_wd hw 119 rfl) (by decide) (own_Met.pay (own_get l Z a0 hw a t kt y h365 n0 f377 f373 f374 f375 f376) C 0 (own_wd hw 138 rfl) (own_wd hw 55 rfl) (by decide) (by decide)) (fun _ _ _ q => q.2) f373 [(.int (0 : Int32))] [] rfl own_pd7 rfl rfl rfl (Nat.le_of_ble_eq_true rfl) (by decide) (by decide) (by decide +kernel) ?_
  rintro T379 h380 v381 L382 S383 ⟨⟨rfl, e378⟩, -⟩
  replace S383 : own_S p l e ({ frames := 4, cells := 6, slots := 10, locals := 120 } : Room) s m #[(.ref a)] below meth c n0 T379 h380 5 5 := S383
  rw [e378] at S383; clear e378
  show own_Go p e below s n0 _ _ _ T379 (mkF m 66 #[.val (.ref a), .val (.int (1 : Int32)), .val (.ref a330), .val (.ref a339), .val (.ref a348), .val (.ref a357), .val (.ref a366), .val (.int (0 : Int32)), .unset, .unset] [(.ref y)])
  have f384 : Exa Z h365 y "com/example/answer_by_role/answerbyrole/engine/ranking/RegressionTree$Node" := (Exa.ext E369 (Exa.ext E360 (Exa.ext E351 (Exa.ext E342 (Exa.ext E333 pY)))))
  refine own_cast C S383 (own_wd hw 152 rfl) (Ins.self f384) (by decide +kernel) ?_
  intro T385 S386
  refine own_seg C S386 [(69, .astore 8, 2), (71, .aload 8, 2)] (by decide +kernel) 73 #[.val (.ref a), .val (.int (1 : Int32)), .val (.ref a330), .val (.ref a339), .val (.ref a348), .val (.ref a357), .val (.ref a366), .val (.int (0 : Int32)), .val (.ref y), .unset] [(.ref y)] rfl ?_
  have f387 : Fld Z h365 y "com/example/answer_by_role/answerbyrole/engine/ranking/RegressionTree$Node" "measure" "I" (.int (-1 : Int32)) := (Fld.ext E369 (Fld.ext E360 (Fld.ext E351 (Fld.ext E342 (Fld.ext E333 p_measure)))))
  refine own_callV C S386 (own_wd hw 154 rfl) (own_wd hw 29 rfl) (own_wd hw 31 rfl) (own_wd hw 31 rfl) (own_wd hw 30 rfl) (by decide) (own_Met.pay (own_g_measure l Z a0 hw y (-1 : Int32) h365 n0 f377 f387) C 0 (own_wd hw 32 rfl) (own_wd hw 3 rfl) (by decide) (by decide)) (fun _ _ _ q => q.2) f384 [] [] rfl own_pd9 rfl rfl rfl (Nat.le_of_ble_eq_true rfl) (by decide) (by decide) (by decide +kernel) ?_
  rintro T389 h390 v391 L392 S393 ⟨⟨rfl, e388⟩, -⟩
  replace S393 : own_S p l e ({ frames := 4, cells := 6, slots := 10, locals := 120 } : Room) s m #[(.ref a)] below meth c n0 T389 h390 5 5 := S393
  rw [e388] at S393; clear e388
  show own_Go p e below s n0 _ _ _ T389 (mkF m 76 #[.val (.ref a), .val (.int (1 : Int32)), .val (.ref a330), .val (.ref a339), .val (.ref a348), .val (.ref a357), .val (.ref a366), .val (.int (0 : Int32)), .val (.ref y), .unset] [(.int (-1 : Int32))])
  refine own_if C S393 (q := .lt) (o := 7) (by decide +kernel) 83 (by decide) (by decide) (fun (q394 : (-1 : Int32) < (0 : Int32)) => ?_) (fun (hq : ¬ (-1 : Int32) < (0 : Int32)) => False.elim (absurd hq (by decide)))
  refine own_seg C S393 [(83, .iconst 0, 1), (84, .istore 9, 2), (86, .iload 9, 2)] (by decide +kernel) 88 #[.val (.ref a), .val (.int (1 : Int32)), .val (.ref a330), .val (.ref a339), .val (.ref a348), .val (.ref a357), .val (.ref a366), .val (.int (0 : Int32)), .val (.ref y), .val (.int (0 : Int32))] [(.int (0 : Int32))] rfl ?_
  refine own_if C S393 (q := .eq) (o := 56) (by decide +kernel) 144 (by decide) (by decide) (fun (q395 : (0 : Int32) = (0 : Int32)) => ?_) (fun (hq : ¬ (0 : Int32) = (0 : Int32)) => False.elim (absurd hq (by decide)))
  refine own_seg C S393 [(144, .aload_n 2, 1), (145, .iload 7, 2), (147, .aload 8, 2)] (by decide +kernel) 149 #[.val (.ref a), .val (.int (1 : Int32)), .val (.ref a330), .val (.ref a339), .val (.ref a348), .val (.ref a357), .val (.ref a366), .val (.int (0 : Int32)), .val (.ref y), .val (.int (0 : Int32))] [(.ref y), (.int (0 : Int32)), (.ref a330)] rfl ?_
  refine own_callV C S393 (own_wd hw 154 rfl) (own_wd hw 29 rfl) (own_wd hw 31 rfl) (own_wd hw 31 rfl) (own_wd hw 30 rfl) (by decide) (own_Met.pay (own_g_measure l Z a0 hw y (-1 : Int32) h365 n0 f377 f387) C 2 (own_wd hw 32 rfl) (own_wd hw 3 rfl) (by decide) (by decide)) (fun _ _ _ q => q.2) f384 [] [(.int (0 : Int32)), (.ref a330)] rfl own_pd9 rfl rfl rfl (Nat.le_of_ble_eq_true rfl) (by decide) (by decide) (by decide +kernel) ?_
  rintro T397 h398 v399 L400 S401 ⟨⟨rfl, e396⟩, -⟩
  replace S401 : own_S p l e ({ frames := 4, cells := 6, slots := 10, locals := 120 } : Room) s m #[(.ref a)] below meth c n0 T397 h398 5 5 := S401
  rw [e396] at S401; clear e396
  show own_Go p e below s n0 _ _ _ T397 (mkF m 152 #[.val (.ref a), .val (.int (1 : Int32)), .val (.ref a330), .val (.ref a339), .val (.ref a348), .val (.ref a357), .val (.ref a366), .val (.int (0 : Int32)), .val (.ref y), .val (.int (0 : Int32))] [(.int (-1 : Int32)), (.int (0 : Int32)), (.ref a330)])
  have f402 : Arv Z h365 a330 k331 .int (1 : Int32) ([(.int (0 : Int32))]) (.int (0 : Int32)) := ((((f335.ext E342).ext E351).ext E360).ext E369)
  have g403 : n0 ≤ a330 := by rw [g332]; exact z0
  refine own_iastore C S401 f402 ⟨(by decide), (by decide)⟩ 0 rfl (Nat.le_of_ble_eq_true rfl) g403 (by decide +kernel) ?_
  intro T404 h406 S405 W407 f408
  have f409 : Arv Z h406 a330 k331 .int (1 : Int32) ([(.int (-1 : Int32))]) (.int (0 : Int32)) := f408
  refine own_seg C S405 [(153, .aload_n 3, 1), (154, .iload 7, 2), (156, .aload 8, 2)] (by decide +kernel) 158 #[.val (.ref a), .val (.int (1 : Int32)), .val (.ref a330), .val (.ref a339), .val (.ref a348), .val (.ref a357), .val (.ref a366), .val (.int (0 : Int32)), .val (.ref y), .val (.int (0 : Int32))] [(.ref y), (.int (0 : Int32)), (.ref a339)] rfl ?_
  have n410 : y ≠ a330 := by rw [g332]; exact Nat.ne_of_lt pY.lt
  have f411 : Fld Z h406 y "com/example/answer_by_role/answerbyrole/engine/ranking/RegressionTree$Node" "threshold" "D" (.double 0) := (Fld.other W407 (Fld.ext E369 (Fld.ext E360 (Fld.ext E351 (Fld.ext E342 (Fld.ext E333 p_threshold))))) (Or.inl n410))
  have f412 : n0 ≤ h406.size := (by rw [W407.size]; exact f377)
  have f419 : Exa Z h406 y "com/example/answer_by_role/answerbyrole/engine/ranking/RegressionTree$Node" := (Exa.wr W407 f384)
  refine own_callV C S405 (own_wd hw 155 rfl) (own_wd hw 34 rfl) (own_wd hw 36 rfl) (own_wd hw 36 rfl) (own_wd hw 35 rfl) (by decide) (own_Met.pay (own_g_threshold l Z a0 hw y 0 h406 n0 f412 f411) C 2 (own_wd hw 37 rfl) (own_wd hw 3 rfl) (by decide) (by decide)) (fun _ _ _ q => q.2) f419 [] [(.int (0 : Int32)), (.ref a339)] rfl own_pd10 rfl rfl rfl (Nat.le_of_ble_eq_true rfl) (by decide) (by decide) (by decide +kernel) ?_
  rintro T414 h415 v416 L417 S418 ⟨⟨rfl, e413⟩, -⟩
  replace S418 : own_S p l e ({ frames := 4, cells := 6, slots := 10, locals := 120 } : Room) s m #[(.ref a)] below meth c n0 T414 h415 5 5 := S418
  rw [e413] at S418; clear e413
  show own_Go p e below s n0 _ _ _ T414 (mkF m 161 #[.val (.ref a), .val (.int (1 : Int32)), .val (.ref a330), .val (.ref a339), .val (.ref a348), .val (.ref a357), .val (.ref a366), .val (.int (0 : Int32)), .val (.ref y), .val (.int (0 : Int32))] [(.double 0), (.int (0 : Int32)), (.ref a339)])
  have n420 : a330 ≠ a339 := by rw [g341]; exact Nat.ne_of_lt f335.lt
  have f421 : Arv Z h406 a339 k340 .double (1 : Int32) ([(.double 0)]) (.double 0) := ((((f344.ext E351).ext E360).ext E369).other W407 (Ne.symm n420))
  have f422 : n0 ≤ h329.size := (Nat.le_trans z0 E333.1)
  have g423 : n0 ≤ a339 := by rw [g341]; exact f422
  refine own_dastore C S418 f421 ⟨(by decide), (by decide)⟩ 0 rfl (Nat.le_of_ble_eq_true rfl) g423 (by decide +kernel) ?_
  intro T424 h426 S425 W427 f428
  have f429 : Arv Z h426 a339 k340 .double (1 : Int32) ([(.double 0)]) (.double 0) := f428
  refine own_seg C S425 [(162, .aload 4, 2), (164, .iload 7, 2), (166, .aload 8, 2)] (by decide +kernel) 168 #[.val (.ref a), .val (.int (1 : Int32)), .val (.ref a330), .val (.ref a339), .val (.ref a348), .val (.ref a357), .val (.ref a366), .val (.int (0 : Int32)), .val (.ref y), .val (.int (0 : Int32))] [(.ref y), (.int (0 : Int32)), (.ref a348)] rfl ?_
  have f430 : y < h329.size := (Nat.lt_of_lt_of_le pY.lt E333.1)
  have n431 : y ≠ a339 := by rw [g341]; exact Nat.ne_of_lt f430
  have f432 : Fld Z h426 y "com/example/answer_by_role/answerbyrole/engine/ranking/RegressionTree$Node" "below" "I" (.int (-1 : Int32)) := (Fld.other W427 (Fld.other W407 (Fld.ext E369 (Fld.ext E360 (Fld.ext E351 (Fld.ext E342 (Fld.ext E333 p_below))))) (Or.inl n410)) (Or.inl n431))
  have f433 : n0 ≤ h426.size := (by rw [W427.size]; exact f412)
  have f440 : Exa Z h426 y "com/example/answer_by_role/answerbyrole/engine/ranking/RegressionTree$Node" := (Exa.wr W427 f419)
  refine own_callV C S425 (own_wd hw 156 rfl) (own_wd hw 39 rfl) (own_wd hw 41 rfl) (own_wd hw 41 rfl) (own_wd hw 40 rfl) (by decide) (own_Met.pay (own_g_below l Z a0 hw y (-1 : Int32) h426 n0 f433 f432) C 2 (own_wd hw 42 rfl) (own_wd hw 3 rfl) (by decide) (by decide)) (fun _ _ _ q => q.2) f440 [] [(.int (0 : Int32)), (.ref a348)] rfl own_pd9 rfl rfl rfl (Nat.le_of_ble_eq_true rfl) (by decide) (by decide) (by decide +kernel) ?_
  rintro T435 h436 v437 L438 S439 ⟨⟨rfl, e434⟩, -⟩
  replace S439 : own_S p l e ({ frames := 4, cells := 6, slots := 10, locals := 120 } : Room) s m #[(.ref a)] below meth c n0 T435 h436 5 5 := S439
  rw [e434] at S439; clear e434
  show own_Go p e below s n0 _ _ _ T435 (mkF m 171 #[.val (.ref a), .val (.int (1 : Int32)), .val (.ref a330), .val (.ref a339), .val (.ref a348), .val (.ref a357), .val (.ref a366), .val (.int (0 : Int32)), .val (.ref y), .val (.int (0 : Int32))] [(.int (-1 : Int32)), (.int (0 : Int32)), (.ref a348)])
  have f441 : a330 < h338.size := (Nat.lt_of_lt_of_le f335.lt E342.1)
  have n442 : a330 ≠ a348 := by rw [g350]; exact Nat.ne_of_lt f441
  have n443 : a339 ≠ a348 := by rw [g350]; exact Nat.ne_of_lt f344.lt
  have f444 : Arv Z h426 a348 k349 .int (1 : Int32) ([(.int (0 : Int32))]) (.int (0 : Int32)) := ((((f353.ext E360).ext E369).other W407 (Ne.symm n442)).other W427 (Ne.symm n443))
  have f445 : n0 ≤ h338.size := (Nat.le_trans f422 E342.1)
  have g446 : n0 ≤ a348 := by rw [g350]; exact f445
  refine own_iastore C S439 f444 ⟨(by decide), (by decide)⟩ 0 rfl (Nat.le_of_ble_eq_true rfl) g446 (by decide +kernel) ?_
  intro T447 h449 S448 W450 f451
  have f452 : Arv Z h449 a348 k349 .int (1 : Int32) ([(.int (-1 : Int32))]) (.int (0 : Int32)) := f451
  refine own_seg C S448 [(172, .aload 5, 2), (174, .iload 7, 2), (176, .aload 8, 2)] (by decide +kernel) 178 #[.val (.ref a), .val (.int (1 : Int32)), .val (.ref a330), .val (.ref a339), .val (.ref a348), .val (.ref a357), .val (.ref a366), .val (.int (0 : Int32)), .val (.ref y), .val (.int (0 : Int32))] [(.ref y), (.int (0 : Int32)), (.ref a357)] rfl ?_
  have f453 : y < h338.size := (Nat.lt_of_lt_of_le f430 E342.1)
  have n454 : y ≠ a348 := by rw [g350]; exact Nat.ne_of_lt f453
  have f455 : Fld Z h449 y "com/example/answer_by_role/answerbyrole/engine/ranking/RegressionTree$Node" "above" "I" (.int (-1 : Int32)) := (Fld.other W450 (Fld.other W427 (Fld.other W407 (Fld.ext E369 (Fld.ext E360 (Fld.ext E351 (Fld.ext E342 (Fld.ext E333 p_above))))) (Or.inl n410)) (Or.inl n431)) (Or.inl n454))
  have f456 : n0 ≤ h449.size := (by rw [W450.size]; exact f433)
  have f463 : Exa Z h449 y "com/example/answer_by_role/answerbyrole/engine/ranking/RegressionTree$Node" := (Exa.wr W450 f440)
  refine own_callV C S448 (own_wd hw 157 rfl) (own_wd hw 44 rfl) (own_wd hw 46 rfl) (own_wd hw 46 rfl) (own_wd hw 45 rfl) (by decide) (own_Met.pay (own_g_above l Z a0 hw y (-1 : Int32) h449 n0 f456 f455) C 2 (own_wd hw 47 rfl) (own_wd hw 3 rfl) (by decide) (by decide)) (fun _ _ _ q => q.2) f463 [] [(.int (0 : Int32)), (.ref a357)] rfl own_pd9 rfl rfl rfl (Nat.le_of_ble_eq_true rfl) (by decide) (by decide) (by decide +kernel) ?_
  rintro T458 h459 v460 L461 S462 ⟨⟨rfl, e457⟩, -⟩
  replace S462 : own_S p l e ({ frames := 4, cells := 6, slots := 10, locals := 120 } : Room) s m #[(.ref a)] below meth c n0 T458 h459 5 5 := S462
  rw [e457] at S462; clear e457
  show own_Go p e below s n0 _ _ _ T458 (mkF m 181 #[.val (.ref a), .val (.int (1 : Int32)), .val (.ref a330), .val (.ref a339), .val (.ref a348), .val (.ref a357), .val (.ref a366), .val (.int (0 : Int32)), .val (.ref y), .val (.int (0 : Int32))] [(.int (-1 : Int32)), (.int (0 : Int32)), (.ref a357)])
  have f464 : a330 < h347.size := (Nat.lt_of_lt_of_le f441 E351.1)
  have n465 : a330 ≠ a357 := by rw [g359]; exact Nat.ne_of_lt f464
  have f466 : a339 < h347.size := (Nat.lt_of_lt_of_le f344.lt E351.1)
  have n467 : a339 ≠ a357 := by rw [g359]; exact Nat.ne_of_lt f466
  have n468 : a348 ≠ a357 := by rw [g359]; exact Nat.ne_of_lt f353.lt
  have f469 : Arv Z h449 a357 k358 .int (1 : Int32) ([(.int (0 : Int32))]) (.int (0 : Int32)) := ((((f362.ext E369).other W407 (Ne.symm n465)).other W427 (Ne.symm n467)).other W450 (Ne.symm n468))
  have f470 : n0 ≤ h347.size := (Nat.le_trans f445 E351.1)
  have g471 : n0 ≤ a357 := by rw [g359]; exact f470
  refine own_iastore C S462 f469 ⟨(by decide), (by decide)⟩ 0 rfl (Nat.le_of_ble_eq_true rfl) g471 (by decide +kernel) ?_
  intro T472 h474 S473 W475 f476
  have f477 : Arv Z h474 a357 k358 .int (1 : Int32) ([(.int (-1 : Int32))]) (.int (0 : Int32)) := f476
  refine own_seg C S473 [(182, .aload 6, 2), (184, .iload 7, 2), (186, .aload 8, 2)] (by decide +kernel) 188 #[.val (.ref a), .val (.int (1 : Int32)), .val (.ref a330), .val (.ref a339), .val (.ref a348), .val (.ref a357), .val (.ref a366), .val (.int (0 : Int32)), .val (.ref y), .val (.int (0 : Int32))] [(.ref y), (.int (0 : Int32)), (.ref a366)] rfl ?_
  have f478 : y < h347.size := (Nat.lt_of_lt_of_le f453 E351.1)
  have n479 : y ≠ a357 := by rw [g359]; exact Nat.ne_of_lt f478
  have f480 : Fld Z h474 y "com/example/answer_by_role/answerbyrole/engine/ranking/RegressionTree$Node" "score" "D" (.double sc) := (Fld.other W475 (Fld.other W450 (Fld.other W427 (Fld.other W407 (Fld.ext E369 (Fld.ext E360 (Fld.ext E351 (Fld.ext E342 (Fld.ext E333 p_score))))) (Or.inl n410)) (Or.inl n431)) (Or.inl n454)) (Or.inl n479))
  have f481 : n0 ≤ h474.size := (by rw [W475.size]; exact f456)
  have f488 : Exa Z h474 y "com/example/answer_by_role/answerbyrole/engine/ranking/RegressionTree$Node" := (Exa.wr W475 f463)
  refine own_callV C S473 (own_wd hw 158 rfl) (own_wd hw 49 rfl) (own_wd hw 51 rfl) (own_wd hw 51 rfl) (own_wd hw 50 rfl) (by decide) (own_Met.pay (own_g_score l Z a0 hw y sc h474 n0 f481 f480) C 2 (own_wd hw 52 rfl) (own_wd hw 3 rfl) (by decide) (by decide)) (fun _ _ _ q => q.2) f488 [] [(.int (0 : Int32)), (.ref a366)] rfl own_pd10 rfl rfl rfl (Nat.le_of_ble_eq_true rfl) (by decide) (by decide) (by decide +kernel) ?_
  rintro T483 h484 v485 L486 S487 ⟨⟨rfl, e482⟩, -⟩
  replace S487 : own_S p l e ({ frames := 4, cells := 6, slots := 10, locals := 120 } : Room) s m #[(.ref a)] below meth c n0 T483 h484 5 5 := S487
  rw [e482] at S487; clear e482
  show own_Go p e below s n0 _ _ _ T483 (mkF m 191 #[.val (.ref a), .val (.int (1 : Int32)), .val (.ref a330), .val (.ref a339), .val (.ref a348), .val (.ref a357), .val (.ref a366), .val (.int (0 : Int32)), .val (.ref y), .val (.int (0 : Int32))] [(.double sc), (.int (0 : Int32)), (.ref a366)])
  have f489 : a330 < h356.size := (Nat.lt_of_lt_of_le f464 E360.1)
  have n490 : a330 ≠ a366 := by rw [g368]; exact Nat.ne_of_lt f489
  have f491 : a339 < h356.size := (Nat.lt_of_lt_of_le f466 E360.1)
  have n492 : a339 ≠ a366 := by rw [g368]; exact Nat.ne_of_lt f491
  have f493 : a348 < h356.size := (Nat.lt_of_lt_of_le f353.lt E360.1)
  have n494 : a348 ≠ a366 := by rw [g368]; exact Nat.ne_of_lt f493
  have n495 : a357 ≠ a366 := by rw [g368]; exact Nat.ne_of_lt f362.lt
  have f496 : Arv Z h474 a366 k367 .double (1 : Int32) ([(.double 0)]) (.double 0) := ((((f371.other W407 (Ne.symm n490)).other W427 (Ne.symm n492)).other W450 (Ne.symm n494)).other W475 (Ne.symm n495))
  have f497 : n0 ≤ h356.size := (Nat.le_trans f470 E360.1)
  have g498 : n0 ≤ a366 := by rw [g368]; exact f497
  refine own_dastore C S487 f496 ⟨(by decide), (by decide)⟩ 0 rfl (Nat.le_of_ble_eq_true rfl) g498 (by decide +kernel) ?_
  intro T499 h501 S500 W502 f503
  have f504 : Arv Z h501 a366 k367 .double (1 : Int32) ([(.double sc)]) (.double 0) := f503
  refine own_seg C S500 [(192, .iinc 7 1, 3), (195, .goto (-143), 3), (52, .iload 7, 2), (54, .iload_n 1, 1)] (by decide +kernel) 55 #[.val (.ref a), .val (.int (1 : Int32)), .val (.ref a330), .val (.ref a339), .val (.ref a348), .val (.ref a357), .val (.ref a366), .val (.int ((0 : Int32) + (1 : Int32))), .val (.ref y), .val (.int (0 : Int32))] [(.int (1 : Int32)), (.int ((0 : Int32) + (1 : Int32)))] rfl ?_
  refine own_icmp C S500 (q := .ge) (o := 143) (by decide +kernel) 198 (by decide) (by decide) (fun (q505 : ¬ ((0 : Int32) + (1 : Int32)) < (1 : Int32)) => ?_) (fun (hq : ((0 : Int32) + (1 : Int32)) < (1 : Int32)) => False.elim (absurd hq (by decide)))
  refine own_new C S500 (own_wd hw 159 rfl) (own_wd hw 160 rfl) (own_wd hw 110 rfl) (by decide +kernel) (by decide) (by decide) ?_
  intro T506 h508 a509 S507 g510 E511 x512 D513
  have f514 : Fld Z h508 a509 "com/example/answer_by_role/answerbyrole/engine/ranking/RegressionTree" "measures" "[I" .null := D513 (ty := (.array .int)) (Or.inr (own_wd hw 166 rfl)) (by decide)
  have f515 : Fld Z h508 a509 "com/example/answer_by_role/answerbyrole/engine/ranking/RegressionTree" "thresholds" "[D" .null := D513 (ty := (.array .double)) (Or.inr (own_wd hw 168 rfl)) (by decide)
  have f516 : Fld Z h508 a509 "com/example/answer_by_role/answerbyrole/engine/ranking/RegressionTree" "below" "[I" .null := D513 (ty := (.array .int)) (Or.inr (own_wd hw 170 rfl)) (by decide)
  have f517 : Fld Z h508 a509 "com/example/answer_by_role/answerbyrole/engine/ranking/RegressionTree" "above" "[I" .null := D513 (ty := (.array .int)) (Or.inr (own_wd hw 172 rfl)) (by decide)
  have f518 : Fld Z h508 a509 "com/example/answer_by_role/answerbyrole/engine/ranking/RegressionTree" "scores" "[D" .null := D513 (ty := (.array .double)) (Or.inr (own_wd hw 174 rfl)) (by decide)
  refine own_seg C S507 [(201, .dup, 1), (202, .aload_n 2, 1), (203, .aload_n 3, 1), (204, .aload 4, 2), (206, .aload 5, 2), (208, .aload 6, 2)] (by decide +kernel) 210 #[.val (.ref a), .val (.int (1 : Int32)), .val (.ref a330), .val (.ref a339), .val (.ref a348), .val (.ref a357), .val (.ref a366), .val (.int ((0 : Int32) + (1 : Int32))), .val (.ref y), .val (.int (0 : Int32))] [(.ref a366), (.ref a357), (.ref a348), (.ref a339), (.ref a330), (.ref a509), (.ref a509)] rfl ?_
  have f519 : n0 ≤ h508.size := (Nat.le_trans (by rw [W502.size]; exact f481) E511.1)
  have f520 : n0 ≤ h501.size := (by rw [W502.size]; exact f481)
  have g521 : n0 ≤ a509 := by rw [g510]; exact f520
  refine own_callI C S507 rfl (own_wd hw 161 rfl) (own_wd hw 162 rfl) (own_wd hw 163 rfl) (by decide) (own_Met.pay (own_rini l Z a0 hw a509 a330 a339 a348 a357 a366 h508 n0 f519 g521 x512 f514 f515 f516 f517 f518) C 1 (own_wd hw 163 rfl) (own_wd hw 110 rfl) (by decide) (by decide)) (fun _ _ _ q => q.2) [(.ref a330), (.ref a339), (.ref a348), (.ref a357), (.ref a366)] [(.ref a509)] rfl own_pd11 rfl rfl rfl (Nat.le_of_ble_eq_true rfl) (by decide) (by decide) (by decide +kernel) ?_
  rintro T529 h530 v531 L532 S533 ⟨⟨rfl, K522, x523, f524, f525, f526, f527, f528⟩, -⟩
  replace S533 : own_S p l e ({ frames := 4, cells := 6, slots := 10, locals := 120 } : Room) s m #[(.ref a)] below meth c n0 T529 h530 6 10 := S533
  show own_Go p e below s n0 _ _ _ T529 (mkF m 213 #[.val (.ref a), .val (.int (1 : Int32)), .val (.ref a330), .val (.ref a339), .val (.ref a348), .val (.ref a357), .val (.ref a366), .val (.int ((0 : Int32) + (1 : Int32))), .val (.ref y), .val (.int (0 : Int32))] [(.ref a509)])
  refine own_retA C S533 rfl rfl (by decide +kernel) (by decide) (by decide) ?_
  have f534 : a330 < h501.size := (by rw [W502.size]; exact (by rw [W475.size]; exact (by rw [W450.size]; exact (by rw [W427.size]; exact (by rw [W407.size]; exact (Nat.lt_of_lt_of_le f489 E369.1))))))
  have n535 : a330 ≠ a509 := by rw [g510]; exact Nat.ne_of_lt f534
  have f536 : Arv Z h530 a330 k331 .int (1 : Int32) ([(.int (-1 : Int32))]) (.int (0 : Int32)) := ((((((f409.other W427 n420).other W450 n442).other W475 n465).other W502 n490).ext E511).keep K522 (ninS n535 nin0))
  have f537 : a366 < h501.size := (by rw [W502.size]; exact (by rw [W475.size]; exact (by rw [W450.size]; exact (by rw [W427.size]; exact (by rw [W407.size]; exact f371.lt)))))
  have n538 : a366 ≠ a509 := by rw [g510]; exact Nat.ne_of_lt f537
  have f539 : Arv Z h530 a366 k367 .double (1 : Int32) ([(.double sc)]) (.double 0) := ((f504.ext E511).keep K522 (ninS n538 nin0))
  exact ⟨a509, a330, k331, a366, k367, rfl, (by rw [g510]; exact (by rw [W502.size]; exact (by rw [W475.size]; exact (by rw [W450.size]; exact (by rw [W427.size]; exact (by rw [W407.size]; exact (Nat.le_trans (Nat.le_trans (Nat.le_trans (Nat.le_trans (Nat.le_trans (Nat.le_refl _) E333.1) E342.1) E351.1) E360.1) E369.1))))))), (((((((((((((Keep.refl _ _).ext E333).ext E342).ext E351).ext E360).ext E369).wr W407 (Or.inr (by rw [g332]; exact (Nat.le_refl _)))).wr W427 (Or.inr (by rw [g341]; exact (Nat.le_trans (Nat.le_refl _) E333.1)))).wr W450 (Or.inr (by rw [g350]; exact (Nat.le_trans (Nat.le_trans (Nat.le_refl _) E333.1) E342.1)))).wr W475 (Or.inr (by rw [g359]; exact (Nat.le_trans (Nat.le_trans (Nat.le_trans (Nat.le_refl _) E333.1) E342.1) E351.1)))).wr W502 (Or.inr (by rw [g368]; exact (Nat.le_trans (Nat.le_trans (Nat.le_trans (Nat.le_trans (Nat.le_refl _) E333.1) E342.1) E351.1) E360.1)))).ext E511).trans K522 (allS (Or.inr (by rw [g510]; exact (by rw [W502.size]; exact (by rw [W475.size]; exact (by rw [W450.size]; exact (by rw [W427.size]; exact (by rw [W407.size]; exact (Nat.le_trans (Nat.le_trans (Nat.le_trans (Nat.le_trans (Nat.le_trans (Nat.le_refl _) E333.1) E342.1) E351.1) E360.1) E369.1)))))))) all0)), x523, f524, f528, f536, f539⟩
set_option maxRecDepth 65536 in
set_option maxHeartbeats 40000000 in
theorem own_score (l : Launch) (Z : State) (a0 : Array Value) (hw : ∀ d ∈ tables_1, d.before a0 Z = true) (r : Addr) (mm : Addr) (km : ClassId) (ss : Addr) (kss : ClassId) (sc : UInt64) (z : Addr) (h0 : Heap) (n0 : Nat) (z0 : n0 ≤ h0.size) (pE : Exa Z h0 r "com/example/answer_by_role/answerbyrole/engine/ranking/RegressionTree") (pm : Fld Z h0 r "com/example/answer_by_role/answerbyrole/engine/ranking/RegressionTree" "measures" "[I" (.ref mm)) (ps : Fld Z h0 r "com/example/answer_by_role/answerbyrole/engine/ranking/RegressionTree" "scores" "[D" (.ref ss)) (aM : Arv Z h0 mm km .int (1 : Int32) ([(.int (-1 : Int32))]) (.int (0 : Int32))) (aS : Arv Z h0 ss kss .double (1 : Int32) ([(.double sc)]) (.double 0)) :
    own_Met l Z (⟨"com/example/answer_by_role/answerbyrole/engine/ranking/RegressionTree", "score", "([D)D"⟩ : MethodName) prog_28_method_3_code 3 (some .double) ({ frames := 0, cells := 0, slots := 0, locals := 0 } : Room) n0 #[(.ref r), (.ref z)] h0 (fun v h => v = some (.double sc) ∧ h = h0) := by
  refine own_met (by decide +kernel) #[.val (.ref r), .val (.ref z), .unset] (fun m => by first | rfl | (simp [entryFrame, mkF, argsToLocals, Value.category]; done)) ?_
  intro p e s m below meth c T0 C S0
  refine own_seg C S0 [(0, .iconst 0, 1), (1, .istore_n 2, 1), (2, .aload_n 0, 1)] (by decide +kernel) 3 #[.val (.ref r), .val (.ref z), .val (.int (0 : Int32))] [(.ref r)] rfl ?_
  refine own_getF C S0 (host := "") (Or.inl (own_wd hw 165 rfl)) Via.refl pm (by decide +kernel) ?_
  intro T540 S541
  refine own_seg C S541 [(6, .iload_n 2, 1)] (by decide +kernel) 7 #[.val (.ref r), .val (.ref z), .val (.int (0 : Int32))] [(.int (0 : Int32)), (.ref mm)] rfl ?_
  refine own_iaload C S541 aM ⟨(by decide), (by decide)⟩ (.int (-1 : Int32)) rfl (by decide +kernel) ?_
  refine own_if C S541 (q := .lt) (o := 40) (by decide +kernel) 48 (by decide) (by decide) (fun (q542 : (-1 : Int32) < (0 : Int32)) => ?_) (fun (hq : ¬ (-1 : Int32) < (0 : Int32)) => False.elim (absurd hq (by decide)))
  refine own_seg C S541 [(48, .aload_n 0, 1)] (by decide +kernel) 49 #[.val (.ref r), .val (.ref z), .val (.int (0 : Int32))] [(.ref r)] rfl ?_
  refine own_getF C S541 (host := "") (Or.inl (own_wd hw 173 rfl)) Via.refl ps (by decide +kernel) ?_
  intro T543 S544
  refine own_seg C S544 [(52, .iload_n 2, 1)] (by decide +kernel) 53 #[.val (.ref r), .val (.ref z), .val (.int (0 : Int32))] [(.int (0 : Int32)), (.ref ss)] rfl ?_
  refine own_daload C S544 aS ⟨(by decide), (by decide)⟩ (.double sc) rfl (by decide +kernel) ?_
  refine own_retD C S544 (by decide +kernel) (by decide) (by decide) ?_
  exact ⟨rfl, rfl⟩
theorem own_fin25 : Jvm.Free.Fl.Fin64 (4598175219545276416 : UInt64) := by unfold Jvm.Free.Fl.Fin64; decide
theorem own_pd12 : parseMethodDescriptor "(D)Lcom/example/answer_by_role/answerbyrole/engine/ranking/RegressionTree$Node;" = some ⟨[.double], (some (.object "com/example/answer_by_role/answerbyrole/engine/ranking/RegressionTree$Node"))⟩ := by decide +kernel
theorem own_pd13 : parseMethodDescriptor "(Ljava/lang/Object;)Z" = some ⟨[(.object "java/lang/Object")], (some .boolean)⟩ := by decide +kernel
theorem own_pd14 : parseMethodDescriptor "(Ljava/util/List;)Lcom/example/answer_by_role/answerbyrole/engine/ranking/RegressionTree;" = some ⟨[(.object "java/util/List")], (some (.object "com/example/answer_by_role/answerbyrole/engine/ranking/RegressionTree"))⟩ := by decide +kernel
theorem own_pd15 : parseMethodDescriptor "([D)D" = some ⟨[(.array .double)], (some .double)⟩ := by decide +kernel
set_option maxRecDepth 65536 in
set_option maxHeartbeats 40000000 in
theorem own_law (l : Launch) (Z : State) (a0 : Array Value) (hw : ∀ d ∈ tables_1, d.before a0 Z = true) (x1 : Int32) (x2 : Int32) (dd : Addr) (kd : ClassId) (h0 : Heap) (n0 : Nat) (z0 : n0 ≤ h0.size) (pD : Arv Z h0 dd kd (.object "java/lang/Object") (0 : Int32) ([]) .null) (X00 : Old Z n0 h0) (SD : Sta Z Z.heap "java/util/ArrayList" "DEFAULTCAPACITY_EMPTY_ELEMENTDATA" "[Ljava/lang/Object;" (.ref dd)) (od : dd < n0) :
    own_Met l Z x code maxLocals ret room_1 n0 #[(.int x1), (.int x2)] h0 (fun v h => v = some (.int 1)) := by
  refine own_met (by decide +kernel) #[.val (.int x1), .val (.int x2), .unset, .unset, .unset, .unset, .unset, .unset] (fun m => by first | rfl | (simp [entryFrame, mkF, argsToLocals, Value.category, maxLocals]; done)) ?_
  intro p e s m below meth c T0 C S0
  have hm := Jvm.Free.Fl.dmul_out (Jvm.Free.Fl.i2d_fin (x2 &&& (3 : Int32))) own_fin25
  have hs := Jvm.Free.Fl.dadd_out' (Jvm.Free.Fl.i2d_fin x1) hm
  refine own_seg C S0 [(0, .iload_n 0, 1), (1, .i2d, 1), (2, .iload_n 1, 1), (3, .iconst 3, 1), (4, .iand, 1), (5, .i2d, 1)] (by decide +kernel) 6 #[.val (.int x1), .val (.int x2), .unset, .unset, .unset, .unset, .unset, .unset] [(.double (FP.i2d (x2 &&& (3 : Int32)))), (.double (FP.i2d x1))] rfl ?_
  refine own_ldc2D C S0 (own_wd hw 0 rfl) (by decide +kernel) ?_
  refine own_dmul C S0 (FP.dmul (FP.i2d (x2 &&& (3 : Int32))) (4598175219545276416 : UInt64)) (by decide +kernel) hm rfl ?_
  obtain ⟨sc, esc⟩ : ∃ sc, FP.dadd (FP.i2d x1) (FP.dmul (FP.i2d (x2 &&& (3 : Int32))) 4598175219545276416) = sc := ⟨_, rfl⟩
  refine own_dadd C S0 sc (by decide +kernel) hs esc ?_
  rw [esc] at hs
  refine own_seg C S0 [(11, .dstore_n 2, 1), (12, .dload_n 2, 1)] (by decide +kernel) 13 #[.val (.int x1), .val (.int x2), .val (.double sc), .second, .unset, .unset, .unset, .unset] [(.double sc)] rfl ?_
  refine own_callS C S0 (own_wd hw 1 rfl) (own_wd hw 2 rfl) (own_wd hw 3 rfl) (own_wd hw 4 rfl) (by decide) (own_Met.pay (own_leaf l Z a0 hw sc h0 n0 z0) C 0 (own_wd hw 4 rfl) (own_wd hw 3 rfl) (by decide) (by decide)) (fun _ _ _ q => q.2) [(.double sc)] [] rfl own_pd12 rfl rfl rfl (Nat.le_of_ble_eq_true rfl) (by decide) (by decide) (by decide +kernel) ?_
  rintro T554 h555 v556 L557 S558 ⟨⟨a545, rfl, g546, K547, f548, f549, f550, f551, f552, f553⟩, -⟩
  replace S558 : own_S p l e room_1 s m #[(.int x1), (.int x2)] below meth c n0 T554 h555 1 5 := S558
  show own_Go p e below s n0 _ _ _ T554 (mkF m 16 #[.val (.int x1), .val (.int x2), .val (.double sc), .second, .unset, .unset, .unset, .unset] [(.ref a545)])
  refine own_seg C S558 [(16, .astore 4, 2), (18, .aload 4, 2)] (by decide +kernel) 20 #[.val (.int x1), .val (.int x2), .val (.double sc), .second, .val (.ref a545), .unset, .unset, .unset] [(.ref a545)] rfl ?_
  have f559 : n0 ≤ h555.size := (Nat.le_trans z0 K547.1)
  refine own_callV C S558 (own_wd hw 28 rfl) (own_wd hw 29 rfl) (own_wd hw 31 rfl) (own_wd hw 31 rfl) (own_wd hw 30 rfl) (by decide) (own_Met.pay (own_g_measure l Z a0 hw a545 (-1 : Int32) h555 n0 f559 f549) C 0 (own_wd hw 32 rfl) (own_wd hw 3 rfl) (by decide) (by decide)) (fun _ _ _ q => q.2) f548 [] [] rfl own_pd9 rfl rfl rfl (Nat.le_of_ble_eq_true rfl) (by decide) (by decide) (by decide +kernel) ?_
  rintro T561 h562 v563 L564 S565 ⟨⟨rfl, e560⟩, -⟩
  replace S565 : own_S p l e room_1 s m #[(.int x1), (.int x2)] below meth c n0 T561 h562 1 5 := S565
  rw [e560] at S565; clear e560
  show own_Go p e below s n0 _ _ _ T561 (mkF m 23 #[.val (.int x1), .val (.int x2), .val (.double sc), .second, .val (.ref a545), .unset, .unset, .unset] [(.int (-1 : Int32))])
  refine own_seg C S565 [(23, .iconst (-1), 1)] (by decide +kernel) 24 #[.val (.int x1), .val (.int x2), .val (.double sc), .second, .val (.ref a545), .unset, .unset, .unset] [(.int (-1 : Int32)), (.int (-1 : Int32))] rfl ?_
  refine own_icmp C S565 (q := .ne) (o := 45) (by decide +kernel) 69 (by decide) (by decide) (fun (hq : ¬ (-1 : Int32) = (-1 : Int32)) => False.elim (hq rfl)) (fun (q566 : (-1 : Int32) = (-1 : Int32)) => ?_)
  refine own_seg C S565 [(27, .aload 4, 2)] (by decide +kernel) 29 #[.val (.int x1), .val (.int x2), .val (.double sc), .second, .val (.ref a545), .unset, .unset, .unset] [(.ref a545)] rfl ?_
  refine own_callV C S565 (own_wd hw 33 rfl) (own_wd hw 34 rfl) (own_wd hw 36 rfl) (own_wd hw 36 rfl) (own_wd hw 35 rfl) (by decide) (own_Met.pay (own_g_threshold l Z a0 hw a545 0 h555 n0 f559 f550) C 0 (own_wd hw 37 rfl) (own_wd hw 3 rfl) (by decide) (by decide)) (fun _ _ _ q => q.2) f548 [] [] rfl own_pd10 rfl rfl rfl (Nat.le_of_ble_eq_true rfl) (by decide) (by decide) (by decide +kernel) ?_
  rintro T568 h569 v570 L571 S572 ⟨⟨rfl, e567⟩, -⟩
  replace S572 : own_S p l e room_1 s m #[(.int x1), (.int x2)] below meth c n0 T568 h569 1 5 := S572
  rw [e567] at S572; clear e567
  show own_Go p e below s n0 _ _ _ T568 (mkF m 32 #[.val (.int x1), .val (.int x2), .val (.double sc), .second, .val (.ref a545), .unset, .unset, .unset] [(.double 0)])
  refine own_dconst0 C S572 (by decide +kernel) ?_
  refine own_dcmp C S572 (o := .l) (0 : Int32) (by decide +kernel) (by decide +kernel) ?_
  refine own_if C S572 (q := .ne) (o := 35) (by decide +kernel) 69 (by decide) (by decide) (fun (hq : ¬ (0 : Int32) = (0 : Int32)) => False.elim (hq rfl)) (fun (q573 : (0 : Int32) = (0 : Int32)) => ?_)
  refine own_seg C S572 [(37, .aload 4, 2)] (by decide +kernel) 39 #[.val (.int x1), .val (.int x2), .val (.double sc), .second, .val (.ref a545), .unset, .unset, .unset] [(.ref a545)] rfl ?_
  refine own_callV C S572 (own_wd hw 38 rfl) (own_wd hw 39 rfl) (own_wd hw 41 rfl) (own_wd hw 41 rfl) (own_wd hw 40 rfl) (by decide) (own_Met.pay (own_g_below l Z a0 hw a545 (-1 : Int32) h555 n0 f559 f551) C 0 (own_wd hw 42 rfl) (own_wd hw 3 rfl) (by decide) (by decide)) (fun _ _ _ q => q.2) f548 [] [] rfl own_pd9 rfl rfl rfl (Nat.le_of_ble_eq_true rfl) (by decide) (by decide) (by decide +kernel) ?_
  rintro T575 h576 v577 L578 S579 ⟨⟨rfl, e574⟩, -⟩
  replace S579 : own_S p l e room_1 s m #[(.int x1), (.int x2)] below meth c n0 T575 h576 1 5 := S579
  rw [e574] at S579; clear e574
  show own_Go p e below s n0 _ _ _ T575 (mkF m 42 #[.val (.int x1), .val (.int x2), .val (.double sc), .second, .val (.ref a545), .unset, .unset, .unset] [(.int (-1 : Int32))])
  refine own_seg C S579 [(42, .iconst (-1), 1)] (by decide +kernel) 43 #[.val (.int x1), .val (.int x2), .val (.double sc), .second, .val (.ref a545), .unset, .unset, .unset] [(.int (-1 : Int32)), (.int (-1 : Int32))] rfl ?_
  refine own_icmp C S579 (q := .ne) (o := 26) (by decide +kernel) 69 (by decide) (by decide) (fun (hq : ¬ (-1 : Int32) = (-1 : Int32)) => False.elim (hq rfl)) (fun (q580 : (-1 : Int32) = (-1 : Int32)) => ?_)
  refine own_seg C S579 [(46, .aload 4, 2)] (by decide +kernel) 48 #[.val (.int x1), .val (.int x2), .val (.double sc), .second, .val (.ref a545), .unset, .unset, .unset] [(.ref a545)] rfl ?_
  refine own_callV C S579 (own_wd hw 43 rfl) (own_wd hw 44 rfl) (own_wd hw 46 rfl) (own_wd hw 46 rfl) (own_wd hw 45 rfl) (by decide) (own_Met.pay (own_g_above l Z a0 hw a545 (-1 : Int32) h555 n0 f559 f552) C 0 (own_wd hw 47 rfl) (own_wd hw 3 rfl) (by decide) (by decide)) (fun _ _ _ q => q.2) f548 [] [] rfl own_pd9 rfl rfl rfl (Nat.le_of_ble_eq_true rfl) (by decide) (by decide) (by decide +kernel) ?_
  rintro T582 h583 v584 L585 S586 ⟨⟨rfl, e581⟩, -⟩
  replace S586 : own_S p l e room_1 s m #[(.int x1), (.int x2)] below meth c n0 T582 h583 1 5 := S586
  rw [e581] at S586; clear e581
  show own_Go p e below s n0 _ _ _ T582 (mkF m 51 #[.val (.int x1), .val (.int x2), .val (.double sc), .second, .val (.ref a545), .unset, .unset, .unset] [(.int (-1 : Int32))])
  refine own_seg C S586 [(51, .iconst (-1), 1)] (by decide +kernel) 52 #[.val (.int x1), .val (.int x2), .val (.double sc), .second, .val (.ref a545), .unset, .unset, .unset] [(.int (-1 : Int32)), (.int (-1 : Int32))] rfl ?_
  refine own_icmp C S586 (q := .ne) (o := 17) (by decide +kernel) 69 (by decide) (by decide) (fun (hq : ¬ (-1 : Int32) = (-1 : Int32)) => False.elim (hq rfl)) (fun (q587 : (-1 : Int32) = (-1 : Int32)) => ?_)
  refine own_seg C S586 [(55, .aload 4, 2)] (by decide +kernel) 57 #[.val (.int x1), .val (.int x2), .val (.double sc), .second, .val (.ref a545), .unset, .unset, .unset] [(.ref a545)] rfl ?_
  refine own_callV C S586 (own_wd hw 48 rfl) (own_wd hw 49 rfl) (own_wd hw 51 rfl) (own_wd hw 51 rfl) (own_wd hw 50 rfl) (by decide) (own_Met.pay (own_g_score l Z a0 hw a545 sc h555 n0 f559 f553) C 0 (own_wd hw 52 rfl) (own_wd hw 3 rfl) (by decide) (by decide)) (fun _ _ _ q => q.2) f548 [] [] rfl own_pd10 rfl rfl rfl (Nat.le_of_ble_eq_true rfl) (by decide) (by decide) (by decide +kernel) ?_
  rintro T589 h590 v591 L592 S593 ⟨⟨rfl, e588⟩, -⟩
  replace S593 : own_S p l e room_1 s m #[(.int x1), (.int x2)] below meth c n0 T589 h590 1 5 := S593
  rw [e588] at S593; clear e588
  show own_Go p e below s n0 _ _ _ T589 (mkF m 60 #[.val (.int x1), .val (.int x2), .val (.double sc), .second, .val (.ref a545), .unset, .unset, .unset] [(.double sc)])
  refine own_seg C S593 [(60, .dload_n 2, 1)] (by decide +kernel) 61 #[.val (.int x1), .val (.int x2), .val (.double sc), .second, .val (.ref a545), .unset, .unset, .unset] [(.double sc), (.double sc)] rfl ?_
  refine own_dcmp C S593 (o := .l) (0 : Int32) (by decide +kernel) (dcmpV_self hs _) ?_
  refine own_if C S593 (q := .ne) (o := 7) (by decide +kernel) 69 (by decide) (by decide) (fun (hq : ¬ (0 : Int32) = (0 : Int32)) => False.elim (hq rfl)) (fun (q594 : (0 : Int32) = (0 : Int32)) => ?_)
  refine own_seg C S593 [(65, .iconst 1, 1), (66, .goto 4, 3), (70, .istore 5, 2), (72, .iload 5, 2)] (by decide +kernel) 74 #[.val (.int x1), .val (.int x2), .val (.double sc), .second, .val (.ref a545), .val (.int (1 : Int32)), .unset, .unset] [(.int (1 : Int32))] rfl ?_
  refine own_if C S593 (q := .ne) (o := 5) (by decide +kernel) 79 (by decide) (by decide) (fun (q595 : ¬ (1 : Int32) = (0 : Int32)) => ?_) (fun (hq : (1 : Int32) = (0 : Int32)) => False.elim (absurd hq (by decide)))
  refine own_new C S593 (own_wd hw 53 rfl) (own_wd hw 54 rfl) (own_wd hw 55 rfl) (by decide +kernel) (by decide) (by decide) ?_
  intro T596 h598 a599 S597 g600 E601 x602 D603
  have f604 : Fld Z h598 a599 "java/util/AbstractList" "modCount" "I" (.int (0 : Int32)) := D603 (ty := .int) (Or.inl (own_wd hw 73 rfl)) (by decide)
  have f605 : Fld Z h598 a599 "java/util/ArrayList" "elementData" "[Ljava/lang/Object;" .null := D603 (ty := (.array (.object "java/lang/Object"))) (Or.inl (own_wd hw 76 rfl)) (by decide)
  have f606 : Fld Z h598 a599 "java/util/ArrayList" "size" "I" (.int (0 : Int32)) := D603 (ty := .int) (Or.inl (own_wd hw 85 rfl)) (by decide)
  refine own_seg C S597 [(82, .dup, 1)] (by decide +kernel) 83 #[.val (.int x1), .val (.int x2), .val (.double sc), .second, .val (.ref a545), .val (.int (1 : Int32)), .unset, .unset] [(.ref a599), (.ref a599)] rfl ?_
  have f607 : Old Z n0 h598 := ((X00.keep K547 all0).ext E601)
  have f608 : n0 ≤ h598.size := (Nat.le_trans f559 E601.1)
  have g609 : n0 ≤ a599 := by rw [g600]; exact f559
  refine own_callI C S597 rfl (own_wd hw 56 rfl) (own_wd hw 57 rfl) (own_wd hw 58 rfl) (by decide) (own_Met.pay (own_al l Z a0 hw a599 dd h598 n0 f608 g609 x602 f604 f605 f606 f607 SD od) C 1 (own_wd hw 58 rfl) (own_wd hw 55 rfl) (by decide) (by decide)) (fun _ _ _ q => q.2) [] [(.ref a599)] rfl own_pd0 rfl rfl rfl (Nat.le_of_ble_eq_true rfl) (by decide) (by decide) (by decide +kernel) ?_
  rintro T615 h616 v617 L618 S619 ⟨⟨rfl, K610, f611, f612, f613, f614⟩, -⟩
  replace S619 : own_S p l e room_1 s m #[(.int x1), (.int x2)] below meth c n0 T615 h616 2 8 := S619
  show own_Go p e below s n0 _ _ _ T615 (mkF m 86 #[.val (.int x1), .val (.int x2), .val (.double sc), .second, .val (.ref a545), .val (.int (1 : Int32)), .unset, .unset] [(.ref a599)])
  refine own_seg C S619 [(86, .astore 6, 2), (88, .aload 6, 2), (90, .aload 4, 2)] (by decide +kernel) 92 #[.val (.int x1), .val (.int x2), .val (.double sc), .second, .val (.ref a545), .val (.int (1 : Int32)), .val (.ref a599), .unset] [(.ref a545), (.ref a599)] rfl ?_
  have f620 : Arv Z h616 dd kd (.object "java/lang/Object") (0 : Int32) ([]) .null := (((pD.keep K547 nin0).ext E601).keep K610 (ninS (Nat.ne_of_lt (Nat.lt_of_lt_of_le od g609)) nin0))
  have f621 : Old Z n0 h616 := (f607.keep K610 (allS g609 all0))
  have f622 : Exa Z h616 a545 "com/example/answer_by_role/answerbyrole/engine/ranking/RegressionTree$Node" := ((Exa.ext E601 f548).keep K610)
  have f623 : n0 ≤ h616.size := (Nat.le_trans f608 K610.1)
  refine own_callV C S619 (own_wd hw 77 rfl) (own_wd hw 78 rfl) (own_wd hw 80 rfl) (own_wd hw 80 rfl) (own_wd hw 79 rfl) (by decide) (own_Met.pay (own_add1 l Z a0 hw a599 dd kd a545 h616 n0 f623 g609 f611 f612 f613 f614 f620 f621 f622 SD od) C 0 (own_wd hw 81 rfl) (own_wd hw 55 rfl) (by decide) (by decide)) (fun _ _ _ q => q.2) f611 [(.ref a545)] [] rfl own_pd13 rfl rfl rfl (Nat.le_of_ble_eq_true rfl) (by decide) (by decide) (by decide +kernel) ?_
  rintro T634 h635 v636 L637 S638 ⟨⟨a624, k625, rfl, g626, K627, f628, f629, f630, f631, f632, p633⟩, -⟩
  replace S638 : own_S p l e room_1 s m #[(.int x1), (.int x2)] below meth c n0 T634 h635 3 18 := S638
  show own_Go p e below s n0 _ _ _ T634 (mkF m 95 #[.val (.int x1), .val (.int x2), .val (.double sc), .second, .val (.ref a545), .val (.int (1 : Int32)), .val (.ref a599), .unset] [(.int (1 : Int32))])
  refine own_seg C S638 [(95, .pop, 1), (96, .aload 6, 2)] (by decide +kernel) 98 #[.val (.int x1), .val (.int x2), .val (.double sc), .second, .val (.ref a545), .val (.int (1 : Int32)), .val (.ref a599), .unset] [(.ref a599)] rfl ?_
  have f639 : Exa Z h635 a545 "com/example/answer_by_role/answerbyrole/engine/ranking/RegressionTree$Node" := (f622.keep K627)
  have n640 : a545 ≠ a599 := by rw [g600]; exact Nat.ne_of_lt f548.lt
  have f641 : Fld Z h635 a545 "com/example/answer_by_role/answerbyrole/engine/ranking/RegressionTree$Node" "measure" "I" (.int (-1 : Int32)) := (((Fld.ext E601 f549).keep K610 (ninS n640 nin0)).keep K627 (ninS n640 nin0))
  have f642 : Fld Z h635 a545 "com/example/answer_by_role/answerbyrole/engine/ranking/RegressionTree$Node" "threshold" "D" (.double 0) := (((Fld.ext E601 f550).keep K610 (ninS n640 nin0)).keep K627 (ninS n640 nin0))
  have f643 : Fld Z h635 a545 "com/example/answer_by_role/answerbyrole/engine/ranking/RegressionTree$Node" "below" "I" (.int (-1 : Int32)) := (((Fld.ext E601 f551).keep K610 (ninS n640 nin0)).keep K627 (ninS n640 nin0))
  have f644 : Fld Z h635 a545 "com/example/answer_by_role/answerbyrole/engine/ranking/RegressionTree$Node" "above" "I" (.int (-1 : Int32)) := (((Fld.ext E601 f552).keep K610 (ninS n640 nin0)).keep K627 (ninS n640 nin0))
  have f645 : Fld Z h635 a545 "com/example/answer_by_role/answerbyrole/engine/ranking/RegressionTree$Node" "score" "D" (.double sc) := (((Fld.ext E601 f553).keep K610 (ninS n640 nin0)).keep K627 (ninS n640 nin0))
  have f646 : n0 ≤ h635.size := (Nat.le_trans f623 K627.1)
  refine own_callS C S638 (own_wd hw 108 rfl) (own_wd hw 109 rfl) (own_wd hw 110 rfl) (own_wd hw 111 rfl) (by decide) (own_Met.pay (own_of l Z a0 hw a599 a624 k625 a545 sc h635 n0 f646 f628 f631 f630 f632 f639 f641 f642 f643 f644 f645) C 0 (own_wd hw 111 rfl) (own_wd hw 110 rfl) (by decide) (by decide)) (fun _ _ _ q => q.2) [(.ref a599)] [] rfl own_pd14 rfl rfl rfl (Nat.le_of_ble_eq_true rfl) (by decide) (by decide) (by decide +kernel) ?_
  rintro T659 h660 v661 L662 S663 ⟨⟨a647, a648, k649, a650, k651, rfl, g652, K653, f654, f655, f656, f657, f658⟩, -⟩
  replace S663 : own_S p l e room_1 s m #[(.int x1), (.int x2)] below meth c n0 T659 h660 9 28 := S663
  show own_Go p e below s n0 _ _ _ T659 (mkF m 101 #[.val (.int x1), .val (.int x2), .val (.double sc), .second, .val (.ref a545), .val (.int (1 : Int32)), .val (.ref a599), .unset] [(.ref a647)])
  refine own_seg C S663 [(101, .astore 7, 2), (103, .aload 7, 2), (105, .iconst 0, 1)] (by decide +kernel) 106 #[.val (.int x1), .val (.int x2), .val (.double sc), .second, .val (.ref a545), .val (.int (1 : Int32)), .val (.ref a599), .val (.ref a647)] [(.int (0 : Int32)), (.ref a647)] rfl ?_
  refine own_newP C S663 (aty := .double) (own_wd hw 130 rfl) (by decide +kernel) (by decide) 0 (by decide) (by decide) (by decide) (by decide) ?_
  intro T664 h666 a667 k668 S665 g669 E670 f671
  have f672 : Arv Z h666 a667 k668 .double (0 : Int32) ([]) (.double 0) := Arv.pad f671 (pad_rep [] (.double 0) 0)
  have f673 : Exa Z h666 a647 "com/example/answer_by_role/answerbyrole/engine/ranking/RegressionTree" := (Exa.ext E670 f654)
  have f674 : Fld Z h666 a647 "com/example/answer_by_role/answerbyrole/engine/ranking/RegressionTree" "measures" "[I" (.ref a648) := (Fld.ext E670 f655)
  have f675 : Fld Z h666 a647 "com/example/answer_by_role/answerbyrole/engine/ranking/RegressionTree" "scores" "[D" (.ref a650) := (Fld.ext E670 f656)
  have f676 : Arv Z h666 a648 k649 .int (1 : Int32) ([(.int (-1 : Int32))]) (.int (0 : Int32)) := (f657.ext E670)
  have f677 : Arv Z h666 a650 k651 .double (1 : Int32) ([(.double sc)]) (.double 0) := (f658.ext E670)
  have f678 : n0 ≤ h666.size := (Nat.le_trans (Nat.le_trans f646 K653.1) E670.1)
  refine own_callV C S665 (own_wd hw 175 rfl) (own_wd hw 176 rfl) (own_wd hw 178 rfl) (own_wd hw 178 rfl) (own_wd hw 177 rfl) (by decide) (own_Met.pay (own_score l Z a0 hw a647 a648 k649 a650 k651 sc a667 h666 n0 f678 f673 f674 f675 f676 f677) C 0 (own_wd hw 179 rfl) (own_wd hw 110 rfl) (by decide) (by decide)) (fun _ _ _ q => q.2) f673 [(.ref a667)] [] rfl own_pd15 rfl rfl rfl (Nat.le_of_ble_eq_true rfl) (by decide) (by decide) (by decide +kernel) ?_
  rintro T680 h681 v682 L683 S684 ⟨⟨rfl, e679⟩, -⟩
  replace S684 : own_S p l e room_1 s m #[(.int x1), (.int x2)] below meth c n0 T680 h681 10 28 := S684
  rw [e679] at S684; clear e679
  show own_Go p e below s n0 _ _ _ T680 (mkF m 111 #[.val (.int x1), .val (.int x2), .val (.double sc), .second, .val (.ref a545), .val (.int (1 : Int32)), .val (.ref a599), .val (.ref a647)] [(.double sc)])
  refine own_seg C S684 [(111, .dload_n 2, 1)] (by decide +kernel) 112 #[.val (.int x1), .val (.int x2), .val (.double sc), .second, .val (.ref a545), .val (.int (1 : Int32)), .val (.ref a599), .val (.ref a647)] [(.double sc), (.double sc)] rfl ?_
  refine own_dcmp C S684 (o := .l) (0 : Int32) (by decide +kernel) (dcmpV_self hs _) ?_
  refine own_if C S684 (q := .ne) (o := 7) (by decide +kernel) 120 (by decide) (by decide) (fun (hq : ¬ (0 : Int32) = (0 : Int32)) => False.elim (hq rfl)) (fun (q685 : (0 : Int32) = (0 : Int32)) => ?_)
  refine own_seg C S684 [(116, .iconst 1, 1), (117, .goto 4, 3)] (by decide +kernel) 121 #[.val (.int x1), .val (.int x2), .val (.double sc), .second, .val (.ref a545), .val (.int (1 : Int32)), .val (.ref a599), .val (.ref a647)] [(.int (1 : Int32))] rfl ?_
  refine own_retZ C S684 (by decide +kernel) (by decide) (by decide) (by decide) ?_
  rfl
theorem own_arv0 {args : Array Value} {s : State} {t : Term} {a : Addr} {c : Cell} {ty : FieldType} (et : t.eval args s none [] s = some (.ref a)) (A : Arr s s.heap a c ty) (h : (Jvm.Cond.eq (.length t) (.int 0)).value args s none s [] = some true) : Arv s s.heap a c.cls ty (0 : Int32) [] .null := by
  have hA : s.arrayAt? a = some c := A.fin (Vm.Alike.refl _)
  have h0 : c.slots.size = 0 := by
    by_cases hl : c.slots.size < 2 ^ 31
    · have e1 : (Term.length t).eval args s none [] s = some (.int c.slots.size.toInt32) := len_f et hA hl
      have e2 := gotT (Cond.eq_ints e1 (Term.int_eval 0)) h
      have e3 := len_toInt hl
      rw [e2] at e3
      have e4 : (0 : Int32).toInt = 0 := rfl
      omega
    · exfalso
      have e1 : (Term.length t).eval args s none [] s = none := by simp [Term.eval, et, hA, hl]
      simp [Cond.value, e1] at h
  exact ⟨c, A, rfl, by rw [h0]; rfl, by decide, fun k hk => by omega, fun i hi => by omega⟩
set_option maxRecDepth 65536 in
set_option maxHeartbeats 40000000 in
theorem comes_1 {Post : Tables → Env → Array Value → State → Outcome → State → Prop} (hpost : ∀ tb e args s v u, (limb_1_1.after args s (.returned v) u = true ∧ limb_1_2.after args s (.returned v) u = true ∧ True) → FrameEnd s (.returned v) u (Jvm.fieldLocs frame_1_writes args s ++ Jvm.arrayLocs frame_1_arrays args s ++ Jvm.staticLocs frame_1_statics s) 32 128 → Post tb e args s (.returned v) u) :
    ArmFor flags0 classFile x code maxLocals ret World_1 tables_1 room_1 Calls_1 rest_1 Pre_1 Post := by
  intro l hfl _ _ p e ha hc hk s m args below hf hA hF happ hP
  obtain ⟨hcalls, hrest, hpre⟩ := hP
  obtain ⟨-, -, -, hnamed, -, -, -, hat⟩ := (Spec.applies_iff hf).mp happ
  obtain ⟨hg, hn⟩ := and_e (Cond.before_iff.mp (show (Jvm.Cond.and given_1 narrow_1).before args s = true from hpre))
  obtain ⟨hcount, hk0⟩ := and_e hg
  obtain ⟨ha0, hk1⟩ := and_e hk0
  obtain ⟨w0, w1, rfl⟩ : ∃ w0 w1 : Value, args = #[w0, w1] := by
    have hs : args.size = 2 := by simpa [Cond.value, given_1] using hcount
    obtain ⟨L⟩ := args
    match L, hs with
    | [w0, w1], _ => exact ⟨w0, w1, rfl⟩
  have hw := fun d (hd : d ∈ tables_1) => atoms_spec (ws := Jvm.Cond.code x code maxLocals ret :: tables_1) hat d (List.mem_cons_of_mem _ hd)
  obtain ⟨i0, ei0⟩ := is_v ha0
  obtain rfl : w0 = (.int i0) := Option.some.inj ei0
  obtain ⟨i1, ei1⟩ := is_v hk1
  obtain rfl : w1 = (.int i1) := Option.some.inj ei1
  obtain ⟨hsets, hown0⟩ := atoms_of _ (rest_1_c_eq ▸ (show rest_1_c.before _ s = true from hrest))
  obtain ⟨dd, edd⟩ := arr_v (Cond.before_iff.mp (hsets _ (List.mem_of_getElem? (i := 6) rfl)))
  obtain ⟨cd, AD⟩ := Arr.start edd (Cond.before_iff.mp (hsets _ (List.mem_of_getElem? (i := 6) rfl)))
  have SD : Sta s s.heap "java/util/ArrayList" "DEFAULTCAPACITY_EMPTY_ELEMENTDATA" "[Ljava/lang/Object;" (.ref dd) := Sta.start edd (Or.inr ⟨own_wd hw 55 rfl, hsets _ (List.mem_of_getElem? (i := 2) rfl)⟩)
  have hlen := Cond.before_iff.mp (hsets _ (List.mem_of_getElem? (i := 8) rfl))
  have hD : Arv s s.heap dd cd.cls (.object "java/lang/Object") (0 : Int32) [] .null := own_arv0 edd AD hlen
  obtain ⟨n, o, g1, g2, g3, _, L, rfl, ⟨rfl, N⟩, hq⟩ := own_law l s _ hw i0 i1 dd cd.cls s.heap s.heap.size (Nat.le_refl _) hD (Old.start s) SD (AD.lt) tables_1 p e ha hc hk s m _ below hf ((Spec.applies_iff_loose hf).mp happ).1 ⟨rfl, State.Warmed39.refl s, rfl⟩ trivial
  refine ⟨n, _, g1, g2, g3, hpost _ _ _ _ _ _ ⟨Cond.after_iff.mpr rfl, Cond.after_iff.mpr (eq_i res_at (Term.int_eval (1)) rfl), trivial⟩ ⟨hq.1, hq.2.1, (hq.2.2.sift fun y hy => Or.inr (N y hy)).mono (by decide) (by decide)⟩⟩
theorem main_1_1 : Claimed_1_1 := comes_1 fun _ _ _ _ _ _ h hF => ⟨h.1, hF⟩
theorem main_1_2 : Claimed_1_2 := comes_1 fun _ _ _ _ _ _ h hF => ⟨h.2.1, hF⟩
end Jvm.Pilot.@@N@@
namespace Jvm.Pilot.@@N@@
open Jvm Jvm.ClassFile Sem Op Lib Jvm.Free Jvm.Stand Jvm.Pilot.@@N@@.Jvm.D
/-! MADE BY PROGRAM (witnessworld.py) out of the Statement's table words and the real class files: 25 classes; the members and pool entries that the words name. The judged class is class 1, her method 1. -/
namespace start1
open Jvm.ClassFile
def u (s : String) : CpInfo := .utf8 (stringToUtf16 s)
/-- a pool by its gaps: so many unusable entries, then the entry; so many at the end -/
def gap : Nat → List CpInfo → List CpInfo
  | 0, r => r
  | n + 1, r => .unusable :: gap n r
def poolList (es : List (Nat × CpInfo)) (last : Nat) : List CpInfo := es.foldr (fun e r => gap e.1 (e.2 :: r)) (gap last [])
def pool (es : List (Nat × CpInfo)) (last : Nat) : Array CpInfo := ⟨poolList es last⟩
def fileOf (pool : Array CpInfo) (this : Nat) (attrs : Array Attribute := #[]) (ms : Array MethodInfo := #[]) (fl : Nat := 33) (sup : Nat := 0) (ifs : Array Nat := #[]) (fds : Array FieldInfo := #[]) : ClassFile where
  minorVersion := 0
  majorVersion := 65
  constantPool := pool
  accessFlags := fl
  thisClass := this
  superClass := sup
  interfaces := ifs
  fields := fds
  methods := ms
  attributes := attrs
def plain (name : String) (sup : Option ClassId) : Class where
  name := name
  kind := .ordinary
  loader := none
  accessFlags := 33
  super := sup
  interfaces := #[]
  cf := none
  fields := #[]
  methods := #[]
  instanceTypes := #[]
  staticTypes := #[]
  resolved := #[]
  callSites := []
  init := .initialized
  statics := none
  mirror := none

def pool0 : Array CpInfo := pool [(5, u "<init>"), (0, u "()V"), (1, .class_ 10), (1, u "java/lang/Object")] 113

def k0c0 : Code := { maxStack := 0, maxLocals := 1, code := object_method_1_code, exceptionTable := #[], attributes := #[] }
def k0m0 : Method := { name := "<init>", desc := "()V", sig := { parameters := [], returnType := none }, accessFlags := 1, code := some k0c0 }
/-- java/lang/Object -/
def k0 : Class := { plain "java/lang/Object" none with
  accessFlags := 33
  interfaces := #[]
  cf := some (fileOf pool0 8 #[] #[{ accessFlags := 1, nameIndex := 5, descriptorIndex := 6, attributes := #[] }] 33 0 #[] #[])
  fields := #[]
  methods := #[k0m0]
  instanceTypes := #[]
  staticTypes := #[]
  resolved := Array.replicate 124 none
  statics := none }

def pool1 : Array CpInfo := pool [(2, .class_ 4), (0, .nameAndType 5 6), (0, u "java/lang/Object"), (0, u "<init>"), (0, u "()V"), (0, .double 4598175219545276416), (1, .methodref 10 11), (0, .class_ 12), (0, .nameAndType 13 14), (0, u "com/example/answer_by_role/answerbyrole/engine/ranking/RegressionTree$Node"), (0, u "leaf"), (0, u "(D)Lcom/example/answer_by_role/answerbyrole/engine/ranking/RegressionTree$Node;"), (0, .methodref 10 16), (0, .nameAndType 17 18), (0, u "measure"), (0, u "()I"), (0, .methodref 10 20), (0, .nameAndType 21 22), (0, u "threshold"), (0, u "()D"), (0, .methodref 10 24), (0, .nameAndType 25 18), (0, u "below"), (0, .methodref 10 27), (0, .nameAndType 28 18), (0, u "above"), (0, .methodref 10 30), (0, .nameAndType 31 22), (0, u "score"), (0, .class_ 33), (0, u "java/util/ArrayList"), (0, .methodref 32 3), (0, .methodref 32 36), (0, .nameAndType 37 38), (0, u "add"), (0, u "(Ljava/lang/Object;)Z"), (0, .methodref 40 41), (0, .class_ 42), (0, .nameAndType 43 44), (0, u "com/example/answer_by_role/answerbyrole/engine/ranking/RegressionTree"), (0, u "of"), (0, u "(Ljava/util/List;)Lcom/example/answer_by_role/answerbyrole/engine/ranking/RegressionTree;"), (0, .methodref 40 46), (0, .nameAndType 31 47), (0, u "([D)D"), (0, .class_ 49), (0, u "com/example/answer_by_role/answerbyrole/engine/ranking/NodeLeafPinLaw"), (2, u "law"), (0, u "(II)Z")] 5

def k1m0 : Method := { name := "<init>", desc := "()V", sig := { parameters := [], returnType := none }, accessFlags := 1, code := none }
def k1c1 : Code := { maxStack := 6, maxLocals := 8, code := code, exceptionTable := #[], attributes := #[] }
def k1m1 : Method := { name := "law", desc := "(II)Z", sig := { parameters := [.int, .int], returnType := some .boolean }, accessFlags := 9, code := some k1c1 }
/-- com/example/answer_by_role/answerbyrole/engine/ranking/NodeLeafPinLaw -/
def k1 : Class := { plain "com/example/answer_by_role/answerbyrole/engine/ranking/NodeLeafPinLaw" (some 0) with
  accessFlags := 49
  interfaces := #[]
  cf := some (fileOf pool1 48 #[] #[{ accessFlags := 1, nameIndex := 5, descriptorIndex := 6, attributes := #[] }, { accessFlags := 9, nameIndex := 52, descriptorIndex := 53, attributes := #[] }] 49 2 #[] #[])
  fields := #[]
  methods := #[k1m0, k1m1]
  instanceTypes := #[]
  staticTypes := #[]
  resolved := Array.replicate 59 none
  statics := none }

def pool2 : Array CpInfo := pool [(1, .methodref 2 3), (0, .class_ 4), (0, .nameAndType 5 6), (0, u "java/lang/Object"), (0, u "<init>"), (0, u "()V"), (0, .class_ 8), (0, u "java/lang/Record")] 13

def k2c0 : Code := { maxStack := 1, maxLocals := 1, code := jdk_30_method_1_code, exceptionTable := #[], attributes := #[] }
def k2m0 : Method := { name := "<init>", desc := "()V", sig := { parameters := [], returnType := none }, accessFlags := 4, code := some k2c0 }
/-- java/lang/Record -/
def k2 : Class := { plain "java/lang/Record" (some 0) with
  accessFlags := 1057
  interfaces := #[]
  cf := some (fileOf pool2 7 #[] #[{ accessFlags := 4, nameIndex := 5, descriptorIndex := 6, attributes := #[] }] 1057 2 #[] #[])
  fields := #[]
  methods := #[k2m0]
  instanceTypes := #[]
  staticTypes := #[]
  resolved := Array.replicate 22 none
  statics := none }

def pool3 : Array CpInfo := pool [(1, .methodref 2 3), (0, .class_ 4), (0, .nameAndType 5 6), (0, u "java/lang/Record"), (0, u "<init>"), (0, u "()V"), (0, .fieldref 8 9), (0, .class_ 10), (0, .nameAndType 11 12), (0, u "com/example/answer_by_role/answerbyrole/engine/ranking/RegressionTree$Node"), (0, u "measure"), (0, u "I"), (0, .fieldref 8 14), (0, .nameAndType 15 16), (0, u "threshold"), (0, u "D"), (0, .fieldref 8 18), (0, .nameAndType 19 12), (0, u "below"), (0, .fieldref 8 21), (0, .nameAndType 22 12), (0, u "above"), (0, .fieldref 8 24), (0, .nameAndType 25 16), (0, u "score"), (0, .methodref 8 27), (0, .nameAndType 5 28), (0, u "(IDIID)V"), (15, u "leaf"), (0, u "(D)Lcom/example/answer_by_role/answerbyrole/engine/ranking/RegressionTree$Node;"), (3, u "()I"), (1, u "()D"), (3, .class_ 56), (0, u "com/example/answer_by_role/answerbyrole/engine/ranking/RegressionTree")] 23

def k3c0 : Code := { maxStack := 3, maxLocals := 8, code := prog_29_method_1_code, exceptionTable := #[], attributes := #[] }
def k3m0 : Method := { name := "<init>", desc := "(IDIID)V", sig := { parameters := [.int, .double, .int, .int, .double], returnType := none }, accessFlags := 0, code := some k3c0 }
def k3c1 : Code := { maxStack := 9, maxLocals := 2, code := prog_29_method_2_code, exceptionTable := #[], attributes := #[] }
def k3m1 : Method := { name := "leaf", desc := "(D)Lcom/example/answer_by_role/answerbyrole/engine/ranking/RegressionTree$Node;", sig := { parameters := [.double], returnType := some (.object "com/example/answer_by_role/answerbyrole/engine/ranking/RegressionTree$Node") }, accessFlags := 8, code := some k3c1 }
def k3c2 : Code := { maxStack := 1, maxLocals := 1, code := prog_29_method_7_code, exceptionTable := #[], attributes := #[] }
def k3m2 : Method := { name := "measure", desc := "()I", sig := { parameters := [], returnType := some .int }, accessFlags := 1, code := some k3c2 }
def k3c3 : Code := { maxStack := 2, maxLocals := 1, code := prog_29_method_8_code, exceptionTable := #[], attributes := #[] }
def k3m3 : Method := { name := "threshold", desc := "()D", sig := { parameters := [], returnType := some .double }, accessFlags := 1, code := some k3c3 }
def k3c4 : Code := { maxStack := 1, maxLocals := 1, code := prog_29_method_9_code, exceptionTable := #[], attributes := #[] }
def k3m4 : Method := { name := "below", desc := "()I", sig := { parameters := [], returnType := some .int }, accessFlags := 1, code := some k3c4 }
def k3c5 : Code := { maxStack := 1, maxLocals := 1, code := prog_29_method_10_code, exceptionTable := #[], attributes := #[] }
def k3m5 : Method := { name := "above", desc := "()I", sig := { parameters := [], returnType := some .int }, accessFlags := 1, code := some k3c5 }
def k3c6 : Code := { maxStack := 2, maxLocals := 1, code := prog_29_method_11_code, exceptionTable := #[], attributes := #[] }
def k3m6 : Method := { name := "score", desc := "()D", sig := { parameters := [], returnType := some .double }, accessFlags := 1, code := some k3c6 }
/-- com/example/answer_by_role/answerbyrole/engine/ranking/RegressionTree$Node -/
def k3 : Class := { plain "com/example/answer_by_role/answerbyrole/engine/ranking/RegressionTree$Node" (some 2) with
  accessFlags := 48
  interfaces := #[]
  cf := some (fileOf pool3 8 #[.nestHost 55] #[{ accessFlags := 0, nameIndex := 5, descriptorIndex := 28, attributes := #[] }, { accessFlags := 8, nameIndex := 44, descriptorIndex := 45, attributes := #[] }, { accessFlags := 1, nameIndex := 11, descriptorIndex := 49, attributes := #[] }, { accessFlags := 1, nameIndex := 15, descriptorIndex := 51, attributes := #[] }, { accessFlags := 1, nameIndex := 19, descriptorIndex := 49, attributes := #[] }, { accessFlags := 1, nameIndex := 22, descriptorIndex := 49, attributes := #[] }, { accessFlags := 1, nameIndex := 25, descriptorIndex := 51, attributes := #[] }] 48 2 #[] #[{ accessFlags := 18, nameIndex := 11, descriptorIndex := 12, attributes := #[] }, { accessFlags := 18, nameIndex := 15, descriptorIndex := 16, attributes := #[] }, { accessFlags := 18, nameIndex := 19, descriptorIndex := 12, attributes := #[] }, { accessFlags := 18, nameIndex := 22, descriptorIndex := 12, attributes := #[] }, { accessFlags := 18, nameIndex := 25, descriptorIndex := 16, attributes := #[] }])
  fields := #[{ name := "measure", type := .int, accessFlags := 18, slot := 0, constantValue := 0 }, { name := "threshold", type := .double, accessFlags := 18, slot := 1, constantValue := 0 }, { name := "below", type := .int, accessFlags := 18, slot := 2, constantValue := 0 }, { name := "above", type := .int, accessFlags := 18, slot := 3, constantValue := 0 }, { name := "score", type := .double, accessFlags := 18, slot := 4, constantValue := 0 }]
  methods := #[k3m0, k3m1, k3m2, k3m3, k3m4, k3m5, k3m6]
  instanceTypes := #[.int, .double, .int, .int, .double]
  staticTypes := #[]
  resolved := Array.replicate 80 none
  statics := none }

def pool4 : Array CpInfo := pool [(8, .class_ 10), (1, u "java/lang/Iterable"), (24, .class_ 36), (0, u "java/lang/Object")] 25

/-- java/lang/Iterable -/
def k4 : Class := { plain "java/lang/Iterable" (some 0) with
  accessFlags := 1537
  interfaces := #[]
  cf := some (fileOf pool4 8 #[] #[] 1537 35 #[] #[])
  fields := #[]
  methods := #[]
  instanceTypes := #[]
  staticTypes := #[]
  resolved := Array.replicate 62 none
  statics := none }

def pool5 : Array CpInfo := pool [(10, .class_ 12), (1, u "java/util/Collection"), (47, .class_ 61), (0, u "java/lang/Object"), (0, .class_ 63), (0, u "java/lang/Iterable")] 51

/-- java/util/Collection -/
def k5 : Class := { plain "java/util/Collection" (some 0) with
  accessFlags := 1537
  interfaces := #[4]
  cf := some (fileOf pool5 10 #[] #[] 1537 60 #[62] #[])
  fields := #[]
  methods := #[]
  instanceTypes := #[]
  staticTypes := #[]
  resolved := Array.replicate 115 none
  statics := none }

def pool6 : Array CpInfo := pool [(1, .methodref 2 3), (0, .class_ 4), (0, .nameAndType 5 6), (0, u "java/lang/Object"), (0, u "<init>"), (0, u "()V"), (1, .class_ 10), (1, u "java/util/AbstractCollection"), (66, .class_ 78), (0, u "java/util/Collection")] 81

def k6c0 : Code := { maxStack := 1, maxLocals := 1, code := jdk_22_method_1_code, exceptionTable := #[], attributes := #[] }
def k6m0 : Method := { name := "<init>", desc := "()V", sig := { parameters := [], returnType := none }, accessFlags := 4, code := some k6c0 }
/-- java/util/AbstractCollection -/
def k6 : Class := { plain "java/util/AbstractCollection" (some 0) with
  accessFlags := 1057
  interfaces := #[5]
  cf := some (fileOf pool6 8 #[] #[{ accessFlags := 4, nameIndex := 5, descriptorIndex := 6, attributes := #[] }] 1057 2 #[77] #[])
  fields := #[]
  methods := #[k6m0]
  instanceTypes := #[]
  staticTypes := #[]
  resolved := Array.replicate 160 none
  statics := none }

def pool7 : Array CpInfo := pool [(8, .class_ 10), (1, u "java/util/SequencedCollection"), (15, .class_ 27), (0, u "java/lang/Object"), (0, .class_ 29), (0, u "java/util/Collection")] 27

/-- java/util/SequencedCollection -/
def k7 : Class := { plain "java/util/SequencedCollection" (some 0) with
  accessFlags := 1537
  interfaces := #[5]
  cf := some (fileOf pool7 8 #[] #[] 1537 26 #[28] #[])
  fields := #[]
  methods := #[]
  instanceTypes := #[]
  staticTypes := #[]
  resolved := Array.replicate 57 none
  statics := none }

def pool8 : Array CpInfo := pool [(8, .class_ 10), (1, u "java/util/List"), (7, u "()Z"), (48, u "isEmpty"), (7, u "get"), (0, u "(I)Ljava/lang/Object;"), (2, u "size"), (0, u "()I"), (22, .class_ 104), (0, u "java/lang/Object"), (15, .class_ 121), (0, u "java/util/SequencedCollection")] 129

def k8m0 : Method := { name := "size", desc := "()I", sig := { parameters := [], returnType := some .int }, accessFlags := 1025, code := none }
def k8m1 : Method := { name := "isEmpty", desc := "()Z", sig := { parameters := [], returnType := some .boolean }, accessFlags := 1025, code := none }
def k8m2 : Method := { name := "get", desc := "(I)Ljava/lang/Object;", sig := { parameters := [.int], returnType := some (.object "java/lang/Object") }, accessFlags := 1025, code := none }
/-- java/util/List -/
def k8 : Class := { plain "java/util/List" (some 0) with
  accessFlags := 1537
  interfaces := #[7]
  cf := some (fileOf pool8 8 #[] #[{ accessFlags := 1025, nameIndex := 79, descriptorIndex := 80, attributes := #[] }, { accessFlags := 1025, nameIndex := 67, descriptorIndex := 18, attributes := #[] }, { accessFlags := 1025, nameIndex := 75, descriptorIndex := 76, attributes := #[] }] 1537 103 #[120] #[])
  fields := #[]
  methods := #[k8m0, k8m1, k8m2]
  instanceTypes := #[]
  staticTypes := #[]
  resolved := Array.replicate 251 none
  statics := none }

def pool9 : Array CpInfo := pool [(1, .methodref 2 3), (0, .class_ 4), (0, .nameAndType 5 6), (0, u "java/util/AbstractCollection"), (0, u "<init>"), (0, u "()V"), (0, .fieldref 8 9), (0, .class_ 10), (0, .nameAndType 11 12), (0, u "java/util/AbstractList"), (0, u "modCount"), (0, u "I"), (64, .class_ 78), (0, u "java/util/AbstractList$Itr"), (3, .class_ 83), (0, u "java/util/AbstractList$ListItr"), (9, .class_ 94), (0, u "java/util/AbstractList$RandomAccessSubList"), (3, .class_ 99), (0, u "java/util/AbstractList$SubList"), (33, .class_ 134), (0, u "java/util/List"), (73, .class_ 209), (0, u "java/util/AbstractList$SubList$1"), (0, .class_ 211), (0, u "java/util/AbstractList$RandomAccessSpliterator")] 6

def k9c0 : Code := { maxStack := 2, maxLocals := 1, code := jdk_39_method_1_code, exceptionTable := #[], attributes := #[] }
def k9m0 : Method := { name := "<init>", desc := "()V", sig := { parameters := [], returnType := none }, accessFlags := 4, code := some k9c0 }
/-- java/util/AbstractList -/
def k9 : Class := { plain "java/util/AbstractList" (some 6) with
  accessFlags := 1057
  interfaces := #[8]
  cf := some (fileOf pool9 8 #[.nestMembers #[93, 98, 208, 210, 82, 77]] #[{ accessFlags := 4, nameIndex := 5, descriptorIndex := 6, attributes := #[] }] 1057 2 #[133] #[{ accessFlags := 132, nameIndex := 11, descriptorIndex := 12, attributes := #[] }])
  fields := #[{ name := "modCount", type := .int, accessFlags := 132, slot := 0, constantValue := 0 }]
  methods := #[k9m0]
  instanceTypes := #[.int]
  staticTypes := #[]
  resolved := Array.replicate 218 none
  statics := none }

def pool10 : Array CpInfo := pool [(1, .class_ 2), (0, u "java/util/RandomAccess"), (0, .class_ 4), (0, u "java/lang/Object")] 2

/-- java/util/RandomAccess -/
def k10 : Class := { plain "java/util/RandomAccess" (some 0) with
  accessFlags := 1537
  interfaces := #[]
  cf := some (fileOf pool10 1 #[] #[] 1537 3 #[] #[])
  fields := #[]
  methods := #[]
  instanceTypes := #[]
  staticTypes := #[]
  resolved := Array.replicate 7 none
  statics := none }

def pool11 : Array CpInfo := pool [(1, .class_ 2), (0, u "java/lang/Cloneable"), (0, .class_ 4), (0, u "java/lang/Object")] 2

/-- java/lang/Cloneable -/
def k11 : Class := { plain "java/lang/Cloneable" (some 0) with
  accessFlags := 1537
  interfaces := #[]
  cf := some (fileOf pool11 1 #[] #[] 1537 3 #[] #[])
  fields := #[]
  methods := #[]
  instanceTypes := #[]
  staticTypes := #[]
  resolved := Array.replicate 7 none
  statics := none }

def pool12 : Array CpInfo := pool [(1, .class_ 2), (0, u "java/io/Serializable"), (0, .class_ 4), (0, u "java/lang/Object")] 2

/-- java/io/Serializable -/
def k12 : Class := { plain "java/io/Serializable" (some 0) with
  accessFlags := 1537
  interfaces := #[]
  cf := some (fileOf pool12 1 #[] #[] 1537 3 #[] #[])
  fields := #[]
  methods := #[]
  instanceTypes := #[]
  staticTypes := #[]
  resolved := Array.replicate 7 none
  statics := none }

def pool13 : Array CpInfo := pool [(1, .methodref 2 3), (0, .class_ 4), (0, .nameAndType 5 6), (0, u "java/util/AbstractList"), (0, u "<init>"), (0, u "()V"), (0, .class_ 8), (0, u "java/lang/Object"), (0, .fieldref 10 11), (0, .class_ 12), (0, .nameAndType 13 14), (0, u "java/util/ArrayList"), (0, u "elementData"), (0, u "[Ljava/lang/Object;"), (2, u "EMPTY_ELEMENTDATA"), (21, .fieldref 10 40), (0, .nameAndType 41 14), (0, u "DEFAULTCAPACITY_EMPTY_ELEMENTDATA"), (5, u "()[Ljava/lang/Object;"), (0, .fieldref 10 49), (0, .nameAndType 50 51), (0, u "size"), (0, u "I"), (11, .fieldref 10 64), (0, .nameAndType 65 51), (0, u "modCount"), (3, .methodref 10 70), (0, .nameAndType 71 72), (0, u "grow"), (0, u "(I)[Ljava/lang/Object;"), (6, .methodref 80 81), (0, .class_ 82), (0, .nameAndType 83 84), (0, u "java/lang/Math"), (0, u "max"), (0, u "(II)I"), (11, u "(Ljava/lang/Object;)Z"), (21, .methodref 119 120), (0, .class_ 121), (0, .nameAndType 122 84), (0, u "java/util/Objects"), (0, u "checkIndex"), (0, .methodref 10 124), (0, .nameAndType 13 125), (0, u "(I)Ljava/lang/Object;"), (3, .methodref 10 130), (0, .nameAndType 71 47), (0, .methodref 10 132), (0, .nameAndType 133 134), (0, u "add"), (0, u "(Ljava/lang/Object;[Ljava/lang/Object;I)V"), (13, .class_ 149), (0, u "java/util/List"), (23, u "()Z"), (12, u "()I"), (75, .class_ 263), (0, u "java/util/ArrayList$ListItr"), (3, .class_ 268), (0, u "java/util/ArrayList$Itr"), (7, .class_ 277), (0, u "java/util/ArrayList$SubList"), (12, .class_ 291), (0, u "java/util/ArrayList$ArrayListSpliterator"), (37, .class_ 330), (0, u "java/util/RandomAccess"), (0, .class_ 332), (0, u "java/lang/Cloneable"), (0, .class_ 334), (0, u "java/io/Serializable"), (0, u "serialVersionUID"), (0, u "J"), (3, u "DEFAULT_CAPACITY"), (22, u "isEmpty"), (17, u "get"), (118, .class_ 501), (0, u "java/util/ArrayList$SubList$2"), (0, .class_ 503), (0, u "java/util/ArrayList$SubList$1")] 5

def k13c0 : Code := { maxStack := 2, maxLocals := 1, code := jdk_38_method_2_code, exceptionTable := #[], attributes := #[] }
def k13m0 : Method := { name := "<init>", desc := "()V", sig := { parameters := [], returnType := none }, accessFlags := 1, code := some k13c0 }
def k13c1 : Code := { maxStack := 4, maxLocals := 4, code := jdk_38_method_6_code, exceptionTable := #[], attributes := #[] }
def k13m1 : Method := { name := "grow", desc := "(I)[Ljava/lang/Object;", sig := { parameters := [.int], returnType := some (.array (.object "java/lang/Object")) }, accessFlags := 2, code := some k13c1 }
def k13c2 : Code := { maxStack := 3, maxLocals := 1, code := jdk_38_method_7_code, exceptionTable := #[], attributes := #[] }
def k13m2 : Method := { name := "grow", desc := "()[Ljava/lang/Object;", sig := { parameters := [], returnType := some (.array (.object "java/lang/Object")) }, accessFlags := 2, code := some k13c2 }
def k13c3 : Code := { maxStack := 1, maxLocals := 1, code := jdk_38_method_8_code, exceptionTable := #[], attributes := #[] }
def k13m3 : Method := { name := "size", desc := "()I", sig := { parameters := [], returnType := some .int }, accessFlags := 1, code := some k13c3 }
def k13c4 : Code := { maxStack := 1, maxLocals := 1, code := jdk_38_method_9_code, exceptionTable := #[], attributes := #[] }
def k13m4 : Method := { name := "isEmpty", desc := "()Z", sig := { parameters := [], returnType := some .boolean }, accessFlags := 1, code := some k13c4 }
def k13c5 : Code := { maxStack := 2, maxLocals := 2, code := jdk_38_method_18_code, exceptionTable := #[], attributes := #[] }
def k13m5 : Method := { name := "elementData", desc := "(I)Ljava/lang/Object;", sig := { parameters := [.int], returnType := some (.object "java/lang/Object") }, accessFlags := 0, code := some k13c5 }
def k13c6 : Code := { maxStack := 2, maxLocals := 2, code := jdk_38_method_20_code, exceptionTable := #[], attributes := #[] }
def k13m6 : Method := { name := "get", desc := "(I)Ljava/lang/Object;", sig := { parameters := [.int], returnType := some (.object "java/lang/Object") }, accessFlags := 1, code := some k13c6 }
def k13c7 : Code := { maxStack := 3, maxLocals := 4, code := jdk_38_method_24_code, exceptionTable := #[], attributes := #[] }
def k13m7 : Method := { name := "add", desc := "(Ljava/lang/Object;[Ljava/lang/Object;I)V", sig := { parameters := [(.object "java/lang/Object"), (.array (.object "java/lang/Object")), .int], returnType := none }, accessFlags := 2, code := some k13c7 }
def k13c8 : Code := { maxStack := 4, maxLocals := 2, code := jdk_38_method_25_code, exceptionTable := #[], attributes := #[] }
def k13m8 : Method := { name := "add", desc := "(Ljava/lang/Object;)Z", sig := { parameters := [(.object "java/lang/Object")], returnType := some .boolean }, accessFlags := 1, code := some k13c8 }
/-- java/util/ArrayList -/
def k13 : Class := { plain "java/util/ArrayList" (some 9) with
  accessFlags := 33
  interfaces := #[8, 10, 11, 12]
  cf := some (fileOf pool13 10 #[.nestMembers #[290, 276, 500, 502, 262, 267]] #[{ accessFlags := 1, nameIndex := 5, descriptorIndex := 6, attributes := #[] }, { accessFlags := 2, nameIndex := 71, descriptorIndex := 72, attributes := #[] }, { accessFlags := 2, nameIndex := 71, descriptorIndex := 47, attributes := #[] }, { accessFlags := 1, nameIndex := 50, descriptorIndex := 186, attributes := #[] }, { accessFlags := 1, nameIndex := 363, descriptorIndex := 173, attributes := #[] }, { accessFlags := 0, nameIndex := 13, descriptorIndex := 125, attributes := #[] }, { accessFlags := 1, nameIndex := 381, descriptorIndex := 125, attributes := #[] }, { accessFlags := 2, nameIndex := 133, descriptorIndex := 134, attributes := #[] }, { accessFlags := 1, nameIndex := 133, descriptorIndex := 96, attributes := #[] }] 33 2 #[148, 329, 331, 333] #[{ accessFlags := 26, nameIndex := 335, descriptorIndex := 336, attributes := #[] }, { accessFlags := 26, nameIndex := 340, descriptorIndex := 51, attributes := #[] }, { accessFlags := 26, nameIndex := 17, descriptorIndex := 14, attributes := #[] }, { accessFlags := 26, nameIndex := 41, descriptorIndex := 14, attributes := #[] }, { accessFlags := 128, nameIndex := 13, descriptorIndex := 14, attributes := #[] }, { accessFlags := 2, nameIndex := 50, descriptorIndex := 51, attributes := #[] }])
  fields := #[{ name := "serialVersionUID", type := .long, accessFlags := 26, slot := 0, constantValue := 0 }, { name := "DEFAULT_CAPACITY", type := .int, accessFlags := 26, slot := 1, constantValue := 0 }, { name := "EMPTY_ELEMENTDATA", type := (.array (.object "java/lang/Object")), accessFlags := 26, slot := 2, constantValue := 0 }, { name := "DEFAULTCAPACITY_EMPTY_ELEMENTDATA", type := (.array (.object "java/lang/Object")), accessFlags := 26, slot := 3, constantValue := 0 }, { name := "elementData", type := (.array (.object "java/lang/Object")), accessFlags := 128, slot := 1, constantValue := 0 }, { name := "size", type := .int, accessFlags := 2, slot := 2, constantValue := 0 }]
  methods := #[k13m0, k13m1, k13m2, k13m3, k13m4, k13m5, k13m6, k13m7, k13m8]
  instanceTypes := #[.int, (.array (.object "java/lang/Object")), .int]
  staticTypes := #[.long, .int, (.array (.object "java/lang/Object")), (.array (.object "java/lang/Object"))]
  resolved := Array.replicate 509 none
  statics := some 0 }

def pool14 : Array CpInfo := pool [(1, .class_ 2), (0, u "java/lang/Math"), (1, .class_ 6), (1, u "java/lang/Object"), (0, u "<init>"), (0, u "()V"), (89, .class_ 100), (1, u "java/lang/Math$RandomNumberGeneratorHolder"), (71, u "negativeZeroFloatBits"), (0, u "J"), (2, u "negativeZeroDoubleBits"), (21, u "max"), (46, u "$assertionsDisabled"), (0, u "Z"), (88, u "(II)I"), (2, u "twoToTheDoubleScaleDown"), (0, u "D"), (4, u "twoToTheDoubleScaleUp"), (9, u "E"), (3, u "PI"), (2, u "TAU"), (2, u "DEGREES_TO_RADIANS"), (0, u "RADIANS_TO_DEGREES")] 94

def k14m0 : Method := { name := "<init>", desc := "()V", sig := { parameters := [], returnType := none }, accessFlags := 2, code := none }
def k14c1 : Code := { maxStack := 2, maxLocals := 2, code := jdk_29_method_65_code, exceptionTable := #[], attributes := #[] }
def k14m1 : Method := { name := "max", desc := "(II)I", sig := { parameters := [.int, .int], returnType := some .int }, accessFlags := 9, code := some k14c1 }
/-- java/lang/Math -/
def k14 : Class := { plain "java/lang/Math" (some 0) with
  accessFlags := 49
  interfaces := #[]
  cf := some (fileOf pool14 1 #[.nestMembers #[98]] #[{ accessFlags := 2, nameIndex := 7, descriptorIndex := 8, attributes := #[] }, { accessFlags := 9, nameIndex := 198, descriptorIndex := 335, attributes := #[] }] 49 4 #[] #[{ accessFlags := 25, nameIndex := 354, descriptorIndex := 339, attributes := #[] }, { accessFlags := 25, nameIndex := 358, descriptorIndex := 339, attributes := #[] }, { accessFlags := 25, nameIndex := 361, descriptorIndex := 339, attributes := #[] }, { accessFlags := 26, nameIndex := 364, descriptorIndex := 339, attributes := #[] }, { accessFlags := 26, nameIndex := 365, descriptorIndex := 339, attributes := #[] }, { accessFlags := 26, nameIndex := 172, descriptorIndex := 173, attributes := #[] }, { accessFlags := 26, nameIndex := 176, descriptorIndex := 173, attributes := #[] }, { accessFlags := 8, nameIndex := 344, descriptorIndex := 339, attributes := #[] }, { accessFlags := 8, nameIndex := 338, descriptorIndex := 339, attributes := #[] }, { accessFlags := 4120, nameIndex := 245, descriptorIndex := 246, attributes := #[] }])
  fields := #[{ name := "E", type := .double, accessFlags := 25, slot := 0, constantValue := 0 }, { name := "PI", type := .double, accessFlags := 25, slot := 1, constantValue := 0 }, { name := "TAU", type := .double, accessFlags := 25, slot := 2, constantValue := 0 }, { name := "DEGREES_TO_RADIANS", type := .double, accessFlags := 26, slot := 3, constantValue := 0 }, { name := "RADIANS_TO_DEGREES", type := .double, accessFlags := 26, slot := 4, constantValue := 0 }, { name := "negativeZeroFloatBits", type := .long, accessFlags := 26, slot := 5, constantValue := 0 }, { name := "negativeZeroDoubleBits", type := .long, accessFlags := 26, slot := 6, constantValue := 0 }, { name := "twoToTheDoubleScaleUp", type := .double, accessFlags := 8, slot := 7, constantValue := 0 }, { name := "twoToTheDoubleScaleDown", type := .double, accessFlags := 8, slot := 8, constantValue := 0 }, { name := "$assertionsDisabled", type := .boolean, accessFlags := 4120, slot := 9, constantValue := 0 }]
  methods := #[k14m0, k14m1]
  instanceTypes := #[]
  staticTypes := #[.double, .double, .double, .double, .double, .long, .long, .double, .double, .boolean]
  resolved := Array.replicate 460 none
  statics := none }

def pool15 : Array CpInfo := pool [(1, .methodref 2 3), (0, .class_ 4), (0, .nameAndType 5 6), (0, u "java/lang/Object"), (0, u "<init>"), (0, u "()V"), (0, .fieldref 8 9), (0, .class_ 10), (0, .nameAndType 11 12), (0, u "com/example/answer_by_role/answerbyrole/engine/ranking/RegressionTree"), (0, u "measures"), (0, u "[I"), (0, .fieldref 8 14), (0, .nameAndType 15 16), (0, u "thresholds"), (0, u "[D"), (0, .fieldref 8 18), (0, .nameAndType 19 12), (0, u "below"), (0, .fieldref 8 21), (0, .nameAndType 22 12), (0, u "above"), (0, .fieldref 8 24), (0, .nameAndType 25 16), (0, u "scores"), (0, .interfaceMethodref 27 28), (0, .class_ 29), (0, .nameAndType 30 31), (0, u "java/util/List"), (0, u "isEmpty"), (0, u "()Z"), (7, .interfaceMethodref 27 40), (0, .nameAndType 41 42), (0, u "size"), (0, u "()I"), (0, .interfaceMethodref 27 44), (0, .nameAndType 45 46), (0, u "get"), (0, u "(I)Ljava/lang/Object;"), (0, .class_ 48), (0, u "com/example/answer_by_role/answerbyrole/engine/ranking/RegressionTree$Node"), (0, .methodref 47 50), (0, .nameAndType 51 42), (0, u "measure"), (0, .methodref 47 53), (0, .nameAndType 19 42), (0, .methodref 47 55), (0, .nameAndType 22 42), (4, .methodref 47 61), (0, .nameAndType 62 63), (0, u "threshold"), (0, u "()D"), (0, .methodref 47 65), (0, .nameAndType 66 63), (0, u "score"), (0, .methodref 8 68), (0, .nameAndType 5 69), (0, u "([I[D[I[I[D)V"), (5, u "of"), (3, u "(Ljava/util/List;)Lcom/example/answer_by_role/answerbyrole/engine/ranking/RegressionTree;"), (5, u "([D)D")] 24

def k15c0 : Code := { maxStack := 2, maxLocals := 6, code := prog_28_method_1_code, exceptionTable := #[], attributes := #[] }
def k15m0 : Method := { name := "<init>", desc := "([I[D[I[I[D)V", sig := { parameters := [(.array .int), (.array .double), (.array .int), (.array .int), (.array .double)], returnType := none }, accessFlags := 2, code := some k15c0 }
def k15c1 : Code := { maxStack := 7, maxLocals := 10, code := prog_28_method_2_code, exceptionTable := #[], attributes := #[] }
def k15m1 : Method := { name := "of", desc := "(Ljava/util/List;)Lcom/example/answer_by_role/answerbyrole/engine/ranking/RegressionTree;", sig := { parameters := [(.object "java/util/List")], returnType := some (.object "com/example/answer_by_role/answerbyrole/engine/ranking/RegressionTree") }, accessFlags := 8, code := some k15c1 }
def k15c2 : Code := { maxStack := 4, maxLocals := 3, code := prog_28_method_3_code, exceptionTable := #[], attributes := #[] }
def k15m2 : Method := { name := "score", desc := "([D)D", sig := { parameters := [(.array .double)], returnType := some .double }, accessFlags := 0, code := some k15c2 }
/-- com/example/answer_by_role/answerbyrole/engine/ranking/RegressionTree -/
def k15 : Class := { plain "com/example/answer_by_role/answerbyrole/engine/ranking/RegressionTree" (some 0) with
  accessFlags := 48
  interfaces := #[]
  cf := some (fileOf pool15 8 #[.nestMembers #[47]] #[{ accessFlags := 2, nameIndex := 5, descriptorIndex := 69, attributes := #[] }, { accessFlags := 8, nameIndex := 75, descriptorIndex := 79, attributes := #[] }, { accessFlags := 0, nameIndex := 66, descriptorIndex := 85, attributes := #[] }] 48 2 #[] #[{ accessFlags := 18, nameIndex := 11, descriptorIndex := 12, attributes := #[] }, { accessFlags := 18, nameIndex := 15, descriptorIndex := 16, attributes := #[] }, { accessFlags := 18, nameIndex := 19, descriptorIndex := 12, attributes := #[] }, { accessFlags := 18, nameIndex := 22, descriptorIndex := 12, attributes := #[] }, { accessFlags := 18, nameIndex := 25, descriptorIndex := 16, attributes := #[] }])
  fields := #[{ name := "measures", type := (.array .int), accessFlags := 18, slot := 0, constantValue := 0 }, { name := "thresholds", type := (.array .double), accessFlags := 18, slot := 1, constantValue := 0 }, { name := "below", type := (.array .int), accessFlags := 18, slot := 2, constantValue := 0 }, { name := "above", type := (.array .int), accessFlags := 18, slot := 3, constantValue := 0 }, { name := "scores", type := (.array .double), accessFlags := 18, slot := 4, constantValue := 0 }]
  methods := #[k15m0, k15m1, k15m2]
  instanceTypes := #[(.array .int), (.array .double), (.array .int), (.array .int), (.array .double)]
  staticTypes := #[]
  resolved := Array.replicate 110 none
  statics := none }

def pool16 : Array CpInfo := pool [(2, .class_ 4), (1, u "java/lang/Object"), (0, u "<init>"), (0, u "()V"), (35, .class_ 44), (1, u "java/util/Objects"), (60, .methodref 106 107), (0, .class_ 108), (0, .nameAndType 109 110), (0, u "jdk/internal/util/Preconditions"), (0, u "checkIndex"), (0, u "(IILjava/util/function/BiFunction;)I"), (60, u "(II)I")] 12

def k16m0 : Method := { name := "<init>", desc := "()V", sig := { parameters := [], returnType := none }, accessFlags := 2, code := none }
def k16c1 : Code := { maxStack := 3, maxLocals := 2, code := jdk_31_method_17_code, exceptionTable := #[], attributes := #[] }
def k16m1 : Method := { name := "checkIndex", desc := "(II)I", sig := { parameters := [.int, .int], returnType := some .int }, accessFlags := 9, code := some k16c1 }
/-- java/util/Objects -/
def k16 : Class := { plain "java/util/Objects" (some 0) with
  accessFlags := 49
  interfaces := #[]
  cf := some (fileOf pool16 42 #[] #[{ accessFlags := 2, nameIndex := 5, descriptorIndex := 6, attributes := #[] }, { accessFlags := 9, nameIndex := 109, descriptorIndex := 171, attributes := #[] }] 49 2 #[] #[])
  fields := #[]
  methods := #[k16m0, k16m1]
  instanceTypes := #[]
  staticTypes := #[]
  resolved := Array.replicate 184 none
  statics := none }

def pool17 : Array CpInfo := pool [(2, .class_ 4), (1, u "java/lang/Object"), (0, u "<init>"), (0, u "()V"), (17, .class_ 26), (1, u "jdk/internal/util/Preconditions"), (6, u "checkIndex"), (21, .class_ 56), (0, u "jdk/internal/util/Preconditions$4"), (57, .class_ 115), (0, u "jdk/internal/util/Preconditions$1"), (7, u "SIOOBE_FORMATTER"), (0, u "Ljava/util/function/BiFunction;"), (0, .class_ 126), (0, u "jdk/internal/util/Preconditions$2"), (3, u "AIOOBE_FORMATTER"), (0, .class_ 132), (0, u "jdk/internal/util/Preconditions$3"), (3, u "IOOBE_FORMATTER"), (41, u "(IILjava/util/function/BiFunction;)I")] 15

def k17m0 : Method := { name := "<init>", desc := "()V", sig := { parameters := [], returnType := none }, accessFlags := 1, code := none }
def k17c1 : Code := { maxStack := 3, maxLocals := 3, code := jdk_41_method_11_code, exceptionTable := #[], attributes := #[] }
def k17m1 : Method := { name := "checkIndex", desc := "(IILjava/util/function/BiFunction;)I", sig := { parameters := [.int, .int, (.object "java/util/function/BiFunction")], returnType := some .int }, accessFlags := 9, code := some k17c1 }
/-- jdk/internal/util/Preconditions -/
def k17 : Class := { plain "jdk/internal/util/Preconditions" (some 0) with
  accessFlags := 33
  interfaces := #[]
  cf := some (fileOf pool17 24 #[.nestMembers #[55, 131, 125, 114]] #[{ accessFlags := 1, nameIndex := 5, descriptorIndex := 6, attributes := #[] }, { accessFlags := 9, nameIndex := 33, descriptorIndex := 178, attributes := #[] }] 33 2 #[] #[{ accessFlags := 25, nameIndex := 123, descriptorIndex := 124, attributes := #[] }, { accessFlags := 25, nameIndex := 130, descriptorIndex := 124, attributes := #[] }, { accessFlags := 25, nameIndex := 136, descriptorIndex := 124, attributes := #[] }])
  fields := #[{ name := "SIOOBE_FORMATTER", type := (.object "java/util/function/BiFunction"), accessFlags := 25, slot := 0, constantValue := 0 }, { name := "AIOOBE_FORMATTER", type := (.object "java/util/function/BiFunction"), accessFlags := 25, slot := 1, constantValue := 0 }, { name := "IOOBE_FORMATTER", type := (.object "java/util/function/BiFunction"), accessFlags := 25, slot := 2, constantValue := 0 }]
  methods := #[k17m0, k17m1]
  instanceTypes := #[]
  staticTypes := #[(.object "java/util/function/BiFunction"), (.object "java/util/function/BiFunction"), (.object "java/util/function/BiFunction")]
  resolved := Array.replicate 194 none
  statics := none }

/-- the primitive byte -/
def k18 : Class := { plain "byte" none with kind := .primitive 'B', accessFlags := 0x411 }
/-- [B -/
def k19 : Class := { plain "[B" (some 0) with kind := .array 18 .byte, interfaces := #[11, 12], accessFlags := 1041 }

/-- the primitive double -/
def k20 : Class := { plain "double" none with kind := .primitive 'D', accessFlags := 0x411 }
/-- [D -/
def k21 : Class := { plain "[D" (some 0) with kind := .array 20 .double, interfaces := #[11, 12], accessFlags := 1041 }

/-- the primitive int -/
def k22 : Class := { plain "int" none with kind := .primitive 'I', accessFlags := 0x411 }
/-- [I -/
def k23 : Class := { plain "[I" (some 0) with kind := .array 22 .int, interfaces := #[11, 12], accessFlags := 1041 }

/-- [Ljava/lang/Object; -/
def k24 : Class := { plain "[Ljava/lang/Object;" (some 0) with kind := .array 0 (.object "java/lang/Object"), interfaces := #[11, 12], accessFlags := 1041 }

def heap : Heap := #[{ cls := 13, slots := #[.long 0, .int 0, .ref 1, .ref 2], vm := .statics 13 },
  { cls := 24, slots := #[], vm := .none },
  { cls := 24, slots := #[], vm := .none }]
def classes : Array Class := #[k0, k1, k2, k3, k4, k5, k6, k7, k8, k9, k10, k11, k12, k13, k14, k15, k16, k17, k18, k19, k20, k21, k22, k23, k24]
def interned : List (Array UInt16 × Addr) := []
def slotsUsed : Nat := 4
def theMethod : MethodId := ⟨1, 1⟩
def args0 : Array Value := #[.int 5, .int 6]
def aboutOver (below : List Frame) : State where
  vm := { classes := classes, interned := interned.toArray }
  heap := heap
  slotsUsed := slotsUsed
  threads := #[{ frames := .invoking theMethod args0 :: below }]
def below0 : List Frame := [.native { method := ⟨0, 0⟩, args := #[] }]
def about1 : State := aboutOver below0
def p0 : Program := .bare "" "" ""
def e0 : Env := launch0.env 0 0 0
theorem w_frames : about1.frames = Frame.invoking theMethod args0 :: below0 := rfl
set_option maxRecDepth 65536 in
theorem w_args : argsFit about1.vm theMethod args0 = true := by decide +kernel
set_option maxRecDepth 65536 in
theorem w_heap : heapFits about1 = true := by decide +kernel
set_option maxRecDepth 65536 in
theorem w_runnable : about1.curStatus? = some .runnable := by decide +kernel
set_option maxRecDepth 65536 in
theorem w_alone : about1.alone = true := by decide +kernel
set_option maxRecDepth 65536 in
theorem w_named : about1.methodNamed? x = some theMethod := by decide +kernel
set_option maxRecDepth 65536 in
theorem w_hears : about1.hears theMethod below0 = true := by decide +kernel
set_option maxRecDepth 65536 in
theorem w_ripe : about1.ripe theMethod args0 below0 = true := by decide +kernel
theorem w_running : about1.status = .running := rfl
set_option maxRecDepth 65536 in
theorem w_room : about1.hasRoom e0.platform room_1 = true :=
  launch0.hasRoom_least _ room_1 (by decide +kernel) (by decide +kernel) (by decide +kernel) (by decide +kernel) (by decide +kernel) (by decide +kernel)
theorem allAtoms_all (ts : List Jvm.Cond) (a : Array Jvm.Value) (st : Jvm.State) : (allAtoms ts).before a st = ts.all (fun c => c.before a st) := by
  induction ts with
  | nil => rfl
  | cons c t ih =>
    show (Jvm.Cond.and c (allAtoms t)).before a st = _
    rw [Jvm.Cond.before_and, ih, List.all_cons]
def words1 : List Jvm.Cond := Jvm.Cond.code x code maxLocals ret :: tables_1
/-- a 'code' word, met by the world's own term for the bytes: nothing is compared byte by byte -/
theorem code_word {y : MethodName} {bytes : ByteArray} {mx : Nat} {rt : Option FieldType} {a : Array Value} {s : State} {m : MethodId} {meth : Method} {c : Code} (h1 : s.methodNamed? y = some m) (h2 : s.vm.method? m = some meth) (h3 : meth.code = some c) (h4 : c.code = bytes)
    (h5 : (c.maxLocals == mx && c.exceptionTable.isEmpty && decide (c.maxStack ≤ mostOperands) && decide (meth.sig.returnType = rt) && !meth.locks && decide (parseMethodDescriptor y.desc = some meth.sig)) = true) : (Jvm.Cond.code y bytes mx rt).before a s = true := by
  simp only [Bool.and_eq_true, beq_iff_eq, Bool.not_eq_true', decide_eq_true_eq] at h5
  obtain ⟨⟨⟨⟨⟨g1, g2⟩, g3⟩, g4⟩, g5⟩, g6⟩ := h5
  simp [Cond.before, Cond.holds, Cond.value, h1, h2, h3, h4, g1, g2, g3, g4, g5, g6]
def isCode : Jvm.Cond → Bool
  | .code _ _ _ _ => true
  | _ => false
theorem all_split {L : List Jvm.Cond} {P : Jvm.Cond → Bool} (h1 : L.all (fun c => isCode c || P c) = true) (h2 : ∀ c ∈ L.filter isCode, P c = true) : L.all P = true := by
  refine List.all_eq_true.mpr fun c hc => ?_
  have h := List.all_eq_true.mp h1 c hc
  rcases Bool.eq_false_or_eq_true (isCode c) with hi | hi
  · exact h2 c (List.mem_filter.mpr ⟨hc, hi⟩)
  · simpa [hi] using h
set_option maxRecDepth 65536 in
theorem w_c0 : (Jvm.Cond.code x code maxLocals ret).before args0 about1 = true := code_word (m := ⟨1, 1⟩) (meth := k1m1) (c := k1c1) (by decide +kernel) rfl rfl rfl (by decide +kernel)
set_option maxRecDepth 65536 in
theorem w_c1 : (Jvm.Cond.code ({ cls := "com/example/answer_by_role/answerbyrole/engine/ranking/RegressionTree$Node", name := "leaf", desc := "(D)Lcom/example/answer_by_role/answerbyrole/engine/ranking/RegressionTree$Node;" } : Jvm.MethodName) prog_29_method_2_code (2 : Nat) (Option.some (Jvm.ClassFile.FieldType.object "com/example/answer_by_role/answerbyrole/engine/ranking/RegressionTree$Node"))).before args0 about1 = true := code_word (m := ⟨3, 1⟩) (meth := k3m1) (c := k3c1) (by decide +kernel) rfl rfl rfl (by decide +kernel)
set_option maxRecDepth 65536 in
theorem w_c2 : (Jvm.Cond.code ({ cls := "com/example/answer_by_role/answerbyrole/engine/ranking/RegressionTree$Node", name := "<init>", desc := "(IDIID)V" } : Jvm.MethodName) prog_29_method_1_code (8 : Nat) (Option.none : Option Jvm.ClassFile.FieldType)).before args0 about1 = true := code_word (m := ⟨3, 0⟩) (meth := k3m0) (c := k3c0) (by decide +kernel) rfl rfl rfl (by decide +kernel)
set_option maxRecDepth 65536 in
theorem w_c3 : (Jvm.Cond.code ({ cls := "java/lang/Record", name := "<init>", desc := "()V" } : Jvm.MethodName) jdk_30_method_1_code (1 : Nat) (Option.none : Option Jvm.ClassFile.FieldType)).before args0 about1 = true := code_word (m := ⟨2, 0⟩) (meth := k2m0) (c := k2c0) (by decide +kernel) rfl rfl rfl (by decide +kernel)
set_option maxRecDepth 65536 in
theorem w_c4 : (Jvm.Cond.code ({ cls := "java/lang/Object", name := "<init>", desc := "()V" } : Jvm.MethodName) object_method_1_code (1 : Nat) (Option.none : Option Jvm.ClassFile.FieldType)).before args0 about1 = true := code_word (m := ⟨0, 0⟩) (meth := k0m0) (c := k0c0) (by decide +kernel) rfl rfl rfl (by decide +kernel)
set_option maxRecDepth 65536 in
theorem w_c5 : (Jvm.Cond.code ({ cls := "com/example/answer_by_role/answerbyrole/engine/ranking/RegressionTree$Node", name := "measure", desc := "()I" } : Jvm.MethodName) prog_29_method_7_code (1 : Nat) (Option.some Jvm.ClassFile.FieldType.int)).before args0 about1 = true := code_word (m := ⟨3, 2⟩) (meth := k3m2) (c := k3c2) (by decide +kernel) rfl rfl rfl (by decide +kernel)
set_option maxRecDepth 65536 in
theorem w_c6 : (Jvm.Cond.code ({ cls := "com/example/answer_by_role/answerbyrole/engine/ranking/RegressionTree$Node", name := "threshold", desc := "()D" } : Jvm.MethodName) prog_29_method_8_code (1 : Nat) (Option.some Jvm.ClassFile.FieldType.double)).before args0 about1 = true := code_word (m := ⟨3, 3⟩) (meth := k3m3) (c := k3c3) (by decide +kernel) rfl rfl rfl (by decide +kernel)
set_option maxRecDepth 65536 in
theorem w_c7 : (Jvm.Cond.code ({ cls := "com/example/answer_by_role/answerbyrole/engine/ranking/RegressionTree$Node", name := "below", desc := "()I" } : Jvm.MethodName) prog_29_method_9_code (1 : Nat) (Option.some Jvm.ClassFile.FieldType.int)).before args0 about1 = true := code_word (m := ⟨3, 4⟩) (meth := k3m4) (c := k3c4) (by decide +kernel) rfl rfl rfl (by decide +kernel)
set_option maxRecDepth 65536 in
theorem w_c8 : (Jvm.Cond.code ({ cls := "com/example/answer_by_role/answerbyrole/engine/ranking/RegressionTree$Node", name := "above", desc := "()I" } : Jvm.MethodName) prog_29_method_10_code (1 : Nat) (Option.some Jvm.ClassFile.FieldType.int)).before args0 about1 = true := code_word (m := ⟨3, 5⟩) (meth := k3m5) (c := k3c5) (by decide +kernel) rfl rfl rfl (by decide +kernel)
set_option maxRecDepth 65536 in
theorem w_c9 : (Jvm.Cond.code ({ cls := "com/example/answer_by_role/answerbyrole/engine/ranking/RegressionTree$Node", name := "score", desc := "()D" } : Jvm.MethodName) prog_29_method_11_code (1 : Nat) (Option.some Jvm.ClassFile.FieldType.double)).before args0 about1 = true := code_word (m := ⟨3, 6⟩) (meth := k3m6) (c := k3c6) (by decide +kernel) rfl rfl rfl (by decide +kernel)
set_option maxRecDepth 65536 in
theorem w_c10 : (Jvm.Cond.code ({ cls := "java/util/ArrayList", name := "<init>", desc := "()V" } : Jvm.MethodName) jdk_38_method_2_code (1 : Nat) (Option.none : Option Jvm.ClassFile.FieldType)).before args0 about1 = true := code_word (m := ⟨13, 0⟩) (meth := k13m0) (c := k13c0) (by decide +kernel) rfl rfl rfl (by decide +kernel)
set_option maxRecDepth 65536 in
theorem w_c11 : (Jvm.Cond.code ({ cls := "java/util/AbstractList", name := "<init>", desc := "()V" } : Jvm.MethodName) jdk_39_method_1_code (1 : Nat) (Option.none : Option Jvm.ClassFile.FieldType)).before args0 about1 = true := code_word (m := ⟨9, 0⟩) (meth := k9m0) (c := k9c0) (by decide +kernel) rfl rfl rfl (by decide +kernel)
set_option maxRecDepth 65536 in
theorem w_c12 : (Jvm.Cond.code ({ cls := "java/util/AbstractCollection", name := "<init>", desc := "()V" } : Jvm.MethodName) jdk_22_method_1_code (1 : Nat) (Option.none : Option Jvm.ClassFile.FieldType)).before args0 about1 = true := code_word (m := ⟨6, 0⟩) (meth := k6m0) (c := k6c0) (by decide +kernel) rfl rfl rfl (by decide +kernel)
set_option maxRecDepth 65536 in
theorem w_c13 : (Jvm.Cond.code ({ cls := "java/util/ArrayList", name := "add", desc := "(Ljava/lang/Object;)Z" } : Jvm.MethodName) jdk_38_method_25_code (2 : Nat) (Option.some Jvm.ClassFile.FieldType.boolean)).before args0 about1 = true := code_word (m := ⟨13, 8⟩) (meth := k13m8) (c := k13c8) (by decide +kernel) rfl rfl rfl (by decide +kernel)
set_option maxRecDepth 65536 in
theorem w_c14 : (Jvm.Cond.code ({ cls := "java/util/ArrayList", name := "add", desc := "(Ljava/lang/Object;[Ljava/lang/Object;I)V" } : Jvm.MethodName) jdk_38_method_24_code (4 : Nat) (Option.none : Option Jvm.ClassFile.FieldType)).before args0 about1 = true := code_word (m := ⟨13, 7⟩) (meth := k13m7) (c := k13c7) (by decide +kernel) rfl rfl rfl (by decide +kernel)
set_option maxRecDepth 65536 in
theorem w_c15 : (Jvm.Cond.code ({ cls := "java/util/ArrayList", name := "grow", desc := "()[Ljava/lang/Object;" } : Jvm.MethodName) jdk_38_method_7_code (1 : Nat) (Option.some (Jvm.ClassFile.FieldType.array (Jvm.ClassFile.FieldType.object "java/lang/Object")))).before args0 about1 = true := code_word (m := ⟨13, 2⟩) (meth := k13m2) (c := k13c2) (by decide +kernel) rfl rfl rfl (by decide +kernel)
set_option maxRecDepth 65536 in
theorem w_c16 : (Jvm.Cond.code ({ cls := "java/util/ArrayList", name := "grow", desc := "(I)[Ljava/lang/Object;" } : Jvm.MethodName) jdk_38_method_6_code (4 : Nat) (Option.some (Jvm.ClassFile.FieldType.array (Jvm.ClassFile.FieldType.object "java/lang/Object")))).before args0 about1 = true := code_word (m := ⟨13, 1⟩) (meth := k13m1) (c := k13c1) (by decide +kernel) rfl rfl rfl (by decide +kernel)
set_option maxRecDepth 65536 in
theorem w_c17 : (Jvm.Cond.code ({ cls := "java/lang/Math", name := "max", desc := "(II)I" } : Jvm.MethodName) jdk_29_method_65_code (2 : Nat) (Option.some Jvm.ClassFile.FieldType.int)).before args0 about1 = true := code_word (m := ⟨14, 1⟩) (meth := k14m1) (c := k14c1) (by decide +kernel) rfl rfl rfl (by decide +kernel)
set_option maxRecDepth 65536 in
theorem w_c18 : (Jvm.Cond.code ({ cls := "com/example/answer_by_role/answerbyrole/engine/ranking/RegressionTree", name := "of", desc := "(Ljava/util/List;)Lcom/example/answer_by_role/answerbyrole/engine/ranking/RegressionTree;" } : Jvm.MethodName) prog_28_method_2_code (10 : Nat) (Option.some (Jvm.ClassFile.FieldType.object "com/example/answer_by_role/answerbyrole/engine/ranking/RegressionTree"))).before args0 about1 = true := code_word (m := ⟨15, 1⟩) (meth := k15m1) (c := k15c1) (by decide +kernel) rfl rfl rfl (by decide +kernel)
set_option maxRecDepth 65536 in
theorem w_c19 : (Jvm.Cond.code ({ cls := "java/util/ArrayList", name := "isEmpty", desc := "()Z" } : Jvm.MethodName) jdk_38_method_9_code (1 : Nat) (Option.some Jvm.ClassFile.FieldType.boolean)).before args0 about1 = true := code_word (m := ⟨13, 4⟩) (meth := k13m4) (c := k13c4) (by decide +kernel) rfl rfl rfl (by decide +kernel)
set_option maxRecDepth 65536 in
theorem w_c20 : (Jvm.Cond.code ({ cls := "java/util/ArrayList", name := "size", desc := "()I" } : Jvm.MethodName) jdk_38_method_8_code (1 : Nat) (Option.some Jvm.ClassFile.FieldType.int)).before args0 about1 = true := code_word (m := ⟨13, 3⟩) (meth := k13m3) (c := k13c3) (by decide +kernel) rfl rfl rfl (by decide +kernel)
set_option maxRecDepth 65536 in
theorem w_c21 : (Jvm.Cond.code ({ cls := "java/util/ArrayList", name := "get", desc := "(I)Ljava/lang/Object;" } : Jvm.MethodName) jdk_38_method_20_code (2 : Nat) (Option.some (Jvm.ClassFile.FieldType.object "java/lang/Object"))).before args0 about1 = true := code_word (m := ⟨13, 6⟩) (meth := k13m6) (c := k13c6) (by decide +kernel) rfl rfl rfl (by decide +kernel)
set_option maxRecDepth 65536 in
theorem w_c22 : (Jvm.Cond.code ({ cls := "java/util/Objects", name := "checkIndex", desc := "(II)I" } : Jvm.MethodName) jdk_31_method_17_code (2 : Nat) (Option.some Jvm.ClassFile.FieldType.int)).before args0 about1 = true := code_word (m := ⟨16, 1⟩) (meth := k16m1) (c := k16c1) (by decide +kernel) rfl rfl rfl (by decide +kernel)
set_option maxRecDepth 65536 in
theorem w_c23 : (Jvm.Cond.code ({ cls := "jdk/internal/util/Preconditions", name := "checkIndex", desc := "(IILjava/util/function/BiFunction;)I" } : Jvm.MethodName) jdk_41_method_11_code (3 : Nat) (Option.some Jvm.ClassFile.FieldType.int)).before args0 about1 = true := code_word (m := ⟨17, 1⟩) (meth := k17m1) (c := k17c1) (by decide +kernel) rfl rfl rfl (by decide +kernel)
set_option maxRecDepth 65536 in
theorem w_c24 : (Jvm.Cond.code ({ cls := "java/util/ArrayList", name := "elementData", desc := "(I)Ljava/lang/Object;" } : Jvm.MethodName) jdk_38_method_18_code (2 : Nat) (Option.some (Jvm.ClassFile.FieldType.object "java/lang/Object"))).before args0 about1 = true := code_word (m := ⟨13, 5⟩) (meth := k13m5) (c := k13c5) (by decide +kernel) rfl rfl rfl (by decide +kernel)
set_option maxRecDepth 65536 in
theorem w_c25 : (Jvm.Cond.code ({ cls := "com/example/answer_by_role/answerbyrole/engine/ranking/RegressionTree", name := "<init>", desc := "([I[D[I[I[D)V" } : Jvm.MethodName) prog_28_method_1_code (6 : Nat) (Option.none : Option Jvm.ClassFile.FieldType)).before args0 about1 = true := code_word (m := ⟨15, 0⟩) (meth := k15m0) (c := k15c0) (by decide +kernel) rfl rfl rfl (by decide +kernel)
set_option maxRecDepth 65536 in
theorem w_c26 : (Jvm.Cond.code ({ cls := "com/example/answer_by_role/answerbyrole/engine/ranking/RegressionTree", name := "score", desc := "([D)D" } : Jvm.MethodName) prog_28_method_3_code (3 : Nat) (Option.some Jvm.ClassFile.FieldType.double)).before args0 about1 = true := code_word (m := ⟨15, 2⟩) (meth := k15m2) (c := k15c2) (by decide +kernel) rfl rfl rfl (by decide +kernel)
def codes1 : List Jvm.Cond := [Jvm.Cond.code x code maxLocals ret, Jvm.Cond.code ({ cls := "com/example/answer_by_role/answerbyrole/engine/ranking/RegressionTree$Node", name := "leaf", desc := "(D)Lcom/example/answer_by_role/answerbyrole/engine/ranking/RegressionTree$Node;" } : Jvm.MethodName) prog_29_method_2_code (2 : Nat) (Option.some (Jvm.ClassFile.FieldType.object "com/example/answer_by_role/answerbyrole/engine/ranking/RegressionTree$Node")), Jvm.Cond.code ({ cls := "com/example/answer_by_role/answerbyrole/engine/ranking/RegressionTree$Node", name := "<init>", desc := "(IDIID)V" } : Jvm.MethodName) prog_29_method_1_code (8 : Nat) (Option.none : Option Jvm.ClassFile.FieldType), Jvm.Cond.code ({ cls := "java/lang/Record", name := "<init>", desc := "()V" } : Jvm.MethodName) jdk_30_method_1_code (1 : Nat) (Option.none : Option Jvm.ClassFile.FieldType), Jvm.Cond.code ({ cls := "java/lang/Object", name := "<init>", desc := "()V" } : Jvm.MethodName) object_method_1_code (1 : Nat) (Option.none : Option Jvm.ClassFile.FieldType), Jvm.Cond.code ({ cls := "com/example/answer_by_role/answerbyrole/engine/ranking/RegressionTree$Node", name := "measure", desc := "()I" } : Jvm.MethodName) prog_29_method_7_code (1 : Nat) (Option.some Jvm.ClassFile.FieldType.int), Jvm.Cond.code ({ cls := "com/example/answer_by_role/answerbyrole/engine/ranking/RegressionTree$Node", name := "threshold", desc := "()D" } : Jvm.MethodName) prog_29_method_8_code (1 : Nat) (Option.some Jvm.ClassFile.FieldType.double), Jvm.Cond.code ({ cls := "com/example/answer_by_role/answerbyrole/engine/ranking/RegressionTree$Node", name := "below", desc := "()I" } : Jvm.MethodName) prog_29_method_9_code (1 : Nat) (Option.some Jvm.ClassFile.FieldType.int), Jvm.Cond.code ({ cls := "com/example/answer_by_role/answerbyrole/engine/ranking/RegressionTree$Node", name := "above", desc := "()I" } : Jvm.MethodName) prog_29_method_10_code (1 : Nat) (Option.some Jvm.ClassFile.FieldType.int), Jvm.Cond.code ({ cls := "com/example/answer_by_role/answerbyrole/engine/ranking/RegressionTree$Node", name := "score", desc := "()D" } : Jvm.MethodName) prog_29_method_11_code (1 : Nat) (Option.some Jvm.ClassFile.FieldType.double), Jvm.Cond.code ({ cls := "java/util/ArrayList", name := "<init>", desc := "()V" } : Jvm.MethodName) jdk_38_method_2_code (1 : Nat) (Option.none : Option Jvm.ClassFile.FieldType), Jvm.Cond.code ({ cls := "java/util/AbstractList", name := "<init>", desc := "()V" } : Jvm.MethodName) jdk_39_method_1_code (1 : Nat) (Option.none : Option Jvm.ClassFile.FieldType), Jvm.Cond.code ({ cls := "java/util/AbstractCollection", name := "<init>", desc := "()V" } : Jvm.MethodName) jdk_22_method_1_code (1 : Nat) (Option.none : Option Jvm.ClassFile.FieldType), Jvm.Cond.code ({ cls := "java/util/ArrayList", name := "add", desc := "(Ljava/lang/Object;)Z" } : Jvm.MethodName) jdk_38_method_25_code (2 : Nat) (Option.some Jvm.ClassFile.FieldType.boolean), Jvm.Cond.code ({ cls := "java/util/ArrayList", name := "add", desc := "(Ljava/lang/Object;[Ljava/lang/Object;I)V" } : Jvm.MethodName) jdk_38_method_24_code (4 : Nat) (Option.none : Option Jvm.ClassFile.FieldType), Jvm.Cond.code ({ cls := "java/util/ArrayList", name := "grow", desc := "()[Ljava/lang/Object;" } : Jvm.MethodName) jdk_38_method_7_code (1 : Nat) (Option.some (Jvm.ClassFile.FieldType.array (Jvm.ClassFile.FieldType.object "java/lang/Object"))), Jvm.Cond.code ({ cls := "java/util/ArrayList", name := "grow", desc := "(I)[Ljava/lang/Object;" } : Jvm.MethodName) jdk_38_method_6_code (4 : Nat) (Option.some (Jvm.ClassFile.FieldType.array (Jvm.ClassFile.FieldType.object "java/lang/Object"))), Jvm.Cond.code ({ cls := "java/lang/Math", name := "max", desc := "(II)I" } : Jvm.MethodName) jdk_29_method_65_code (2 : Nat) (Option.some Jvm.ClassFile.FieldType.int), Jvm.Cond.code ({ cls := "com/example/answer_by_role/answerbyrole/engine/ranking/RegressionTree", name := "of", desc := "(Ljava/util/List;)Lcom/example/answer_by_role/answerbyrole/engine/ranking/RegressionTree;" } : Jvm.MethodName) prog_28_method_2_code (10 : Nat) (Option.some (Jvm.ClassFile.FieldType.object "com/example/answer_by_role/answerbyrole/engine/ranking/RegressionTree")), Jvm.Cond.code ({ cls := "java/util/ArrayList", name := "isEmpty", desc := "()Z" } : Jvm.MethodName) jdk_38_method_9_code (1 : Nat) (Option.some Jvm.ClassFile.FieldType.boolean), Jvm.Cond.code ({ cls := "java/util/ArrayList", name := "size", desc := "()I" } : Jvm.MethodName) jdk_38_method_8_code (1 : Nat) (Option.some Jvm.ClassFile.FieldType.int), Jvm.Cond.code ({ cls := "java/util/ArrayList", name := "get", desc := "(I)Ljava/lang/Object;" } : Jvm.MethodName) jdk_38_method_20_code (2 : Nat) (Option.some (Jvm.ClassFile.FieldType.object "java/lang/Object")), Jvm.Cond.code ({ cls := "java/util/Objects", name := "checkIndex", desc := "(II)I" } : Jvm.MethodName) jdk_31_method_17_code (2 : Nat) (Option.some Jvm.ClassFile.FieldType.int), Jvm.Cond.code ({ cls := "jdk/internal/util/Preconditions", name := "checkIndex", desc := "(IILjava/util/function/BiFunction;)I" } : Jvm.MethodName) jdk_41_method_11_code (3 : Nat) (Option.some Jvm.ClassFile.FieldType.int), Jvm.Cond.code ({ cls := "java/util/ArrayList", name := "elementData", desc := "(I)Ljava/lang/Object;" } : Jvm.MethodName) jdk_38_method_18_code (2 : Nat) (Option.some (Jvm.ClassFile.FieldType.object "java/lang/Object")), Jvm.Cond.code ({ cls := "com/example/answer_by_role/answerbyrole/engine/ranking/RegressionTree", name := "<init>", desc := "([I[D[I[I[D)V" } : Jvm.MethodName) prog_28_method_1_code (6 : Nat) (Option.none : Option Jvm.ClassFile.FieldType), Jvm.Cond.code ({ cls := "com/example/answer_by_role/answerbyrole/engine/ranking/RegressionTree", name := "score", desc := "([D)D" } : Jvm.MethodName) prog_28_method_3_code (3 : Nat) (Option.some Jvm.ClassFile.FieldType.double)]
set_option maxRecDepth 65536 in
theorem codes_eq : words1.filter isCode = codes1 := rfl
theorem w_codes : ∀ c ∈ words1.filter isCode, c.before args0 about1 = true := by
  rw [codes_eq]
  intro c hc
  simp only [codes1, List.mem_cons, List.not_mem_nil, or_false] at hc
  rcases hc with rfl | rfl | rfl | rfl | rfl | rfl | rfl | rfl | rfl | rfl | rfl | rfl | rfl | rfl | rfl | rfl | rfl | rfl | rfl | rfl | rfl | rfl | rfl | rfl | rfl | rfl | rfl
  · exact w_c0
  · exact w_c1
  · exact w_c2
  · exact w_c3
  · exact w_c4
  · exact w_c5
  · exact w_c6
  · exact w_c7
  · exact w_c8
  · exact w_c9
  · exact w_c10
  · exact w_c11
  · exact w_c12
  · exact w_c13
  · exact w_c14
  · exact w_c15
  · exact w_c16
  · exact w_c17
  · exact w_c18
  · exact w_c19
  · exact w_c20
  · exact w_c21
  · exact w_c22
  · exact w_c23
  · exact w_c24
  · exact w_c25
  · exact w_c26
set_option maxRecDepth 65536 in
theorem w_t1 : (words1.take 24).all (fun c => isCode c || c.before args0 about1) = true := by decide +kernel
set_option maxRecDepth 65536 in
theorem w_t2 : ((words1.drop 24).take 24).all (fun c => isCode c || c.before args0 about1) = true := by decide +kernel
set_option maxRecDepth 65536 in
theorem w_t3 : (((words1.drop 24).drop 24).take 24).all (fun c => isCode c || c.before args0 about1) = true := by decide +kernel
set_option maxRecDepth 65536 in
theorem w_t4 : ((((words1.drop 24).drop 24).drop 24).take 24).all (fun c => isCode c || c.before args0 about1) = true := by decide +kernel
set_option maxRecDepth 65536 in
theorem w_t5 : (((((words1.drop 24).drop 24).drop 24).drop 24).take 24).all (fun c => isCode c || c.before args0 about1) = true := by decide +kernel
set_option maxRecDepth 65536 in
theorem w_t6 : ((((((words1.drop 24).drop 24).drop 24).drop 24).drop 24).take 24).all (fun c => isCode c || c.before args0 about1) = true := by decide +kernel
set_option maxRecDepth 65536 in
theorem w_t7 : (((((((words1.drop 24).drop 24).drop 24).drop 24).drop 24).drop 24).take 24).all (fun c => isCode c || c.before args0 about1) = true := by decide +kernel
set_option maxRecDepth 65536 in
theorem w_t8 : (((((((words1.drop 24).drop 24).drop 24).drop 24).drop 24).drop 24).drop 24).all (fun c => isCode c || c.before args0 about1) = true := by decide +kernel
theorem w_tables : (allAtoms (Jvm.Cond.code x code maxLocals ret :: tables_1)).before args0 about1 = true := by
  rw [allAtoms_all]
  show words1.all (fun c => c.before args0 about1) = true
  refine all_split ?_ w_codes
  rw [← List.take_append_drop 24 words1, List.all_append, w_t1, ← List.take_append_drop 24 (words1.drop 24), List.all_append, w_t2, ← List.take_append_drop 24 ((words1.drop 24).drop 24), List.all_append, w_t3, ← List.take_append_drop 24 (((words1.drop 24).drop 24).drop 24), List.all_append, w_t4, ← List.take_append_drop 24 ((((words1.drop 24).drop 24).drop 24).drop 24), List.all_append, w_t5, ← List.take_append_drop 24 (((((words1.drop 24).drop 24).drop 24).drop 24).drop 24), List.all_append, w_t6, ← List.take_append_drop 24 ((((((words1.drop 24).drop 24).drop 24).drop 24).drop 24).drop 24), List.all_append, w_t7, w_t8]
  rfl
set_option maxRecDepth 65536 in
theorem w_rest : rest_1_c.before args0 about1 = true := by decide +kernel
set_option maxRecDepth 65536 in
theorem w_case : (Jvm.Cond.and given_1 narrow_1).before args0 about1 = true := by decide +kernel
theorem w_applies : (headSpec (Jvm.Cond.code x code maxLocals ret :: tables_1) room_1).applies x e0.platform about1 = true :=
  (Spec.applies_iff w_frames).mpr ⟨w_running, w_runnable, w_alone, w_named, w_hears, w_ripe, w_room, w_tables⟩
theorem atStart : AtStart classFile x code maxLocals ret World_1 tables_1 room_1 Calls_1 rest_1 Pre_1 launch0 p0 e0 about1 theMethod args0 below0 :=
  ⟨lists_1, trivial, launch0.admits_env _ _ _, launch0.least_env, fairChoices_fair.cas, fairChoices_fair.clock, w_frames, w_args, w_heap, w_applies, trivial, w_rest, w_case⟩
end start1
theorem witness_1 : WitnessClaimed_1 := ⟨start1.p0, start1.e0, start1.about1, start1.theMethod, start1.args0, start1.below0, start1.atStart⟩
end Jvm.Pilot.@@N@@
