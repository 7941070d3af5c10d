import JvmDerived
import JvmDerived.Pilot.@@N@@Statement
import JvmDerived.Pilot.@@N@@Code
set_option linter.unusedVariables false
set_option linter.unusedSimpArgs false
namespace Jvm.Pilot.@@N@@
open Jvm Jvm.ClassFile Sem Op Lib Jvm.Free Jvm.Stand Jvm.LawKit Jvm.RoadKit Bundle Jvm.Pilot.@@N@@.Jvm.D
def own_dC : String := match tables_1[8]? with | some (Jvm.Cond.laysStatic _ _ d) => d | _ => ""
section Own
variable {p : Program} {l : Launch} {e : Env} {R : Room} {s : State} {m : MethodId} {args : Array Value} {below : List Frame} {meth : Method} {c : Code} {Z : State} {a0 : Array Value} {n0 : Nat} {Q : Option Value → Heap → Prop} {h : Heap} {cells slots pc pc' : Nat} {Ls Ls' : Array Slot} {st st' rest : List Value} {bs : ByteArray} {own : String} {mL : Nat} {T : State} {locs : List Loc}
/-- what is fixed along the walk of one body -/
def Amb (bs : ByteArray) (own : String) (mL : Nat) (Z : State) (p : Program) (s : State) (m : MethodId) (c : Code) : Prop := p.tables.exec = Jvm.exec ∧ c.code = bs ∧ Z.Warmed39 s.vm ∧ s.vm.findClass own = some m.cls ∧ c.maxLocals = mL
/-- from here the body comes to its return, and Q holds there -/
def Goes (p : Program) (l : Launch) (e : Env) (R : Room) (s : State) (m : MethodId) (args : Array Value) (below : List Frame) (meth : Method) (c : Code) (n0 : Nat) (Q : Option Value → Heap → Prop) (h : Heap) (cells slots pc : Nat) (Ls : Array Slot) (st : List Value) : Prop :=
  ∀ (T : State) (locs : List Loc), Stand p l e R s m args below meth c T locs cells slots → Fr n0 locs → T.heap = h →
    ∃ (s₂ : State) (v : Option Value) (L : List Loc), Steps p.tables e below (T.setTop (mkF m pc Ls st)) s₂ ∧ s₂.status = .running ∧ Ended s₂ below (.returned v) ∧ Q v s₂.heap ∧ Fr n0 L ∧ FrameEnd s (.returned v) s₂ L R.cells R.slots
theorem Goes.step (f : ∀ (T : State) (locs : List Loc), Stand p l e R s m args below meth c T locs cells slots → T.heap = h → ∀ target, Steps p.tables e below (T.setTop (mkF m pc' Ls' st')) target → Steps p.tables e below (T.setTop (mkF m pc Ls st)) target)
    (nx : Goes p l e R s m args below meth c n0 Q h cells slots pc' Ls' st') : Goes p l e R s m args below meth c n0 Q h cells slots pc Ls st := by
  intro T locs X N eT
  obtain ⟨s₂, v, L, h1, r⟩ := nx T locs X N eT
  exact ⟨s₂, v, L, f T locs X eT _ h1, r⟩
/-- a step by a law that hands out a new standing place, the heap as it was -/
theorem Goes.stay (f : ∀ (T : State) (locs : List Loc), Stand p l e R s m args below meth c T locs cells slots → T.heap = h → ∃ T', Stand p l e R s m args below meth c T' locs cells slots ∧ T'.heap = h ∧ ∀ target, Steps p.tables e below (T'.setTop (mkF m pc' Ls' st')) target → Steps p.tables e below (T.setTop (mkF m pc Ls st)) target)
    (nx : Goes p l e R s m args below meth c n0 Q h cells slots pc' Ls' st') : Goes p l e R s m args below meth c n0 Q h cells slots pc Ls st := by
  intro T locs X N eT
  obtain ⟨T', X', eT', k⟩ := f T locs X eT
  obtain ⟨s₂, v, L, h1, r⟩ := nx T' locs X' N eT'
  exact ⟨s₂, v, L, k _ h1, r⟩
/-- one plain step: its length, the locals, the stack -/
def sim1 (i : Instr) (Ls : Array Slot) (st : List Value) : Option (Nat × Array Slot × List Value) :=
  match i with
  | .iload_n k => match Ls[k.val]? with | some (.val (.int v)) => some (1, Ls, .int v :: st) | _ => none
  | .iload k => match Ls[k]? with | some (.val (.int v)) => some (2, Ls, .int v :: st) | _ => none
  | .aload_n k => match Ls[k.val]? with | some (.val v) => if v.isRef = true then some (1, Ls, v :: st) else none | _ => none
  | .aload k => match Ls[k]? with | some (.val v) => if v.isRef = true then some (2, Ls, v :: st) else none | _ => none
  | .lload_n k => match Ls[k.val]? with | some (.val (.long v)) => some (1, Ls, .long v :: st) | _ => none
  | .lload k => match Ls[k]? with | some (.val (.long v)) => some (2, Ls, .long v :: st) | _ => none
  | .istore_n k => match st with | .int v :: r => (match storeLocals Ls k.val (.int v) with | some L => some (1, L, r) | none => none) | _ => none
  | .istore k => match st with | .int v :: r => (match storeLocals Ls k (.int v) with | some L => some (2, L, r) | none => none) | _ => none
  | .astore_n k => match st with | v :: r => if v.isRef = true then (match storeLocals Ls k.val v with | some L => some (1, L, r) | none => none) else none | _ => none
  | .astore k => match st with | v :: r => if v.isRef = true then (match storeLocals Ls k v with | some L => some (2, L, r) | none => none) else none | _ => none
  | .lstore_n k => match st with | .long v :: r => (match storeLocals Ls k.val (.long v) with | some L => some (1, L, r) | none => none) | _ => none
  | .lstore k => match st with | .long v :: r => (match storeLocals Ls k (.long v) with | some L => some (2, L, r) | none => none) | _ => none
  | .iconst i => some (1, Ls, .int (Int32.ofInt i) :: st)
  | .bipush i => some (2, Ls, .int (Int8.ofInt i).toInt32 :: st)
  | .sipush i => some (3, Ls, .int (Int16.ofInt i).toInt32 :: st)
  | .aconst_null => some (1, Ls, .null :: st)
  | .lconst k => some (1, Ls, .long (Int64.ofNat k.val) :: st)
  | .iadd => match st with | .int y :: .int x :: r => some (1, Ls, .int (x + y) :: r) | _ => none
  | .isub => match st with | .int y :: .int x :: r => some (1, Ls, .int (x - y) :: r) | _ => none
  | .iand => match st with | .int y :: .int x :: r => some (1, Ls, .int (x &&& y) :: r) | _ => none
  | .imul => match st with | .int y :: .int x :: r => some (1, Ls, .int (x * y) :: r) | _ => none
  | .ixor => match st with | .int y :: .int x :: r => some (1, Ls, .int (x ^^^ y) :: r) | _ => none
  | .ior => match st with | .int y :: .int x :: r => some (1, Ls, .int (x ||| y) :: r) | _ => none
  | .ishl => match st with | .int y :: .int x :: r => some (1, Ls, .int (x <<< (y &&& 31)) :: r) | _ => none
  | .ishr => match st with | .int y :: .int x :: r => some (1, Ls, .int (x >>> (y &&& 31)) :: r) | _ => none
  | .iushr => match st with | .int y :: .int x :: r => some (1, Ls, .int (XT.ushr x y) :: r) | _ => none
  | .ladd => match st with | .long y :: .long x :: r => some (1, Ls, .long (x + y) :: r) | _ => none
  | .lsub => match st with | .long y :: .long x :: r => some (1, Ls, .long (x - y) :: r) | _ => none
  | .land => match st with | .long y :: .long x :: r => some (1, Ls, .long (x &&& y) :: r) | _ => none
  | .lor => match st with | .long y :: .long x :: r => some (1, Ls, .long (x ||| y) :: r) | _ => none
  | .lxor => match st with | .long y :: .long x :: r => some (1, Ls, .long (x ^^^ y) :: r) | _ => none
  | .lshl => match st with | .int y :: .long x :: r => some (1, Ls, .long (x <<< (y.toInt64 &&& 63)) :: r) | _ => none
  | .lushr => match st with | .int y :: .long x :: r => some (1, Ls, .long (XT.ushrL x y) :: r) | _ => none
  | .lcmp => match st with | .long y :: .long x :: r => some (1, Ls, .int (XT.cmpL x y) :: r) | _ => none
  | .ineg => match st with | .int x :: r => some (1, Ls, .int (-x) :: r) | _ => none
  | .i2b => match st with | .int x :: r => some (1, Ls, .int x.toInt8.toInt32 :: r) | _ => none
  | .i2c => match st with | .int x :: r => some (1, Ls, .int x.toUInt32.toUInt16.toUInt32.toInt32 :: r) | _ => none
  | .i2l => match st with | .int x :: r => some (1, Ls, .long x.toInt64 :: r) | _ => none
  | .l2i => match st with | .long x :: r => some (1, Ls, .int x.toInt32 :: r) | _ => none
  | .lneg => match st with | .long x :: r => some (1, Ls, .long (-x) :: r) | _ => none
  | .dup => match st with | x :: r => if x.category = 1 then some (1, Ls, x :: x :: r) else none | _ => none
  | .pop => match st with | x :: r => if x.category = 1 then some (1, Ls, r) else none | _ => none
  | .dup_x1 => match st with | x :: y :: r => if x.category = 1 ∧ y.category = 1 then some (1, Ls, x :: y :: x :: r) else none | _ => none
  | .dup2 => match st with | x :: y :: r => if x.category = 1 ∧ y.category = 1 then some (1, Ls, x :: y :: x :: y :: r) else none | _ => none
  | .iinc k i => match Ls[k]? with | some (.val (.int x)) => (match storeLocals Ls k (.int (x + Int32.ofInt i)) with | some L => some (3, L, st) | none => none) | _ => none
  | _ => none
theorem sim1_ok (X : Stand p l e R s m args below meth c T locs cells slots) (hx : p.tables.exec = Jvm.exec) {i : Instr} {n : Nat} (hd : decode c.code pc = .ok (i, n)) (hs : sim1 i Ls st = some (n, Ls', st')) {target : State}
    (hr : Steps p.tables e below (T.setTop (mkF m (pc + n) Ls' st')) target) : Steps p.tables e below (T.setTop (mkF m pc Ls st)) target := by
  cases i
  case iload_n k =>
    simp only [sim1] at hs
    split at hs
    · rename_i v hv
      simp only [Option.some.injEq, Prod.mk.injEq] at hs
      obtain ⟨rfl, rfl, rfl⟩ := hs
      exact XS.iloadN X.here hx rfl hd hv hr
    · cases hs
  case iload k =>
    simp only [sim1] at hs
    split at hs
    · rename_i v hv
      simp only [Option.some.injEq, Prod.mk.injEq] at hs
      obtain ⟨rfl, rfl, rfl⟩ := hs
      exact XS.iload X.here hx rfl hd hv hr
    · cases hs
  case aload_n k =>
    simp only [sim1] at hs
    split at hs
    · rename_i v hv
      split at hs
      · rename_i hr2
        simp only [Option.some.injEq, Prod.mk.injEq] at hs
        obtain ⟨rfl, rfl, rfl⟩ := hs
        exact XS.aloadN X.here hx rfl hd hv hr2 hr
      · cases hs
    · cases hs
  case aload k =>
    simp only [sim1] at hs
    split at hs
    · rename_i v hv
      split at hs
      · rename_i hr2
        simp only [Option.some.injEq, Prod.mk.injEq] at hs
        obtain ⟨rfl, rfl, rfl⟩ := hs
        exact XS.aload X.here hx rfl hd hv hr2 hr
      · cases hs
    · cases hs
  case lload_n k =>
    simp only [sim1] at hs
    split at hs
    · rename_i v hv
      simp only [Option.some.injEq, Prod.mk.injEq] at hs
      obtain ⟨rfl, rfl, rfl⟩ := hs
      exact XT.lloadN X.here hx rfl hd hv hr
    · cases hs
  case lload k =>
    simp only [sim1] at hs
    split at hs
    · rename_i v hv
      simp only [Option.some.injEq, Prod.mk.injEq] at hs
      obtain ⟨rfl, rfl, rfl⟩ := hs
      exact XT.lload X.here hx rfl hd hv hr
    · cases hs
  case istore_n k =>
    simp only [sim1] at hs
    split at hs
    · rename_i v r
      split at hs
      · rename_i L hL
        simp only [Option.some.injEq, Prod.mk.injEq] at hs
        obtain ⟨rfl, rfl, rfl⟩ := hs
        exact XS.istoreN X.here hx rfl hd rfl hL hr
      · cases hs
    · cases hs
  case istore k =>
    simp only [sim1] at hs
    split at hs
    · rename_i v r
      split at hs
      · rename_i L hL
        simp only [Option.some.injEq, Prod.mk.injEq] at hs
        obtain ⟨rfl, rfl, rfl⟩ := hs
        exact XS.istore X.here hx rfl hd rfl hL hr
      · cases hs
    · cases hs
  case astore_n k =>
    simp only [sim1] at hs
    split at hs
    · rename_i v r
      split at hs
      · rename_i hr2
        split at hs
        · rename_i L hL
          simp only [Option.some.injEq, Prod.mk.injEq] at hs
          obtain ⟨rfl, rfl, rfl⟩ := hs
          exact XS.astoreN X.here hx rfl hd rfl hr2 hL hr
        · cases hs
      · cases hs
    · cases hs
  case astore k =>
    simp only [sim1] at hs
    split at hs
    · rename_i v r
      split at hs
      · rename_i hr2
        split at hs
        · rename_i L hL
          simp only [Option.some.injEq, Prod.mk.injEq] at hs
          obtain ⟨rfl, rfl, rfl⟩ := hs
          exact XS.astore X.here hx rfl hd rfl hr2 hL hr
        · cases hs
      · cases hs
    · cases hs
  case lstore_n k =>
    simp only [sim1] at hs
    split at hs
    · rename_i v r
      split at hs
      · rename_i L hL
        simp only [Option.some.injEq, Prod.mk.injEq] at hs
        obtain ⟨rfl, rfl, rfl⟩ := hs
        exact XT.lstoreN X.here hx rfl hd rfl hL hr
      · cases hs
    · cases hs
  case lstore k =>
    simp only [sim1] at hs
    split at hs
    · rename_i v r
      split at hs
      · rename_i L hL
        simp only [Option.some.injEq, Prod.mk.injEq] at hs
        obtain ⟨rfl, rfl, rfl⟩ := hs
        exact XT.lstore X.here hx rfl hd rfl hL hr
      · cases hs
    · cases hs
  case iconst i =>
    simp only [sim1, Option.some.injEq, Prod.mk.injEq] at hs
    obtain ⟨rfl, rfl, rfl⟩ := hs
    exact XS.iconst X.here hx rfl hd hr
  case bipush i =>
    simp only [sim1, Option.some.injEq, Prod.mk.injEq] at hs
    obtain ⟨rfl, rfl, rfl⟩ := hs
    exact XS.bipush X.here hx rfl hd hr
  case sipush i =>
    simp only [sim1, Option.some.injEq, Prod.mk.injEq] at hs
    obtain ⟨rfl, rfl, rfl⟩ := hs
    exact XS.sipush X.here hx rfl hd hr
  case aconst_null =>
    simp only [sim1, Option.some.injEq, Prod.mk.injEq] at hs
    obtain ⟨rfl, rfl, rfl⟩ := hs
    exact XS.aconstNull X.here hx rfl hd hr
  case lconst k =>
    simp only [sim1, Option.some.injEq, Prod.mk.injEq] at hs
    obtain ⟨rfl, rfl, rfl⟩ := hs
    exact XT.lconst X.here hx rfl hd hr
  case iadd =>
    simp only [sim1] at hs
    split at hs
    · rename_i y x r
      simp only [Option.some.injEq, Prod.mk.injEq] at hs
      obtain ⟨rfl, rfl, rfl⟩ := hs
      exact XS.iadd X.here hx rfl hd rfl hr
    · cases hs
  case isub =>
    simp only [sim1] at hs
    split at hs
    · rename_i y x r
      simp only [Option.some.injEq, Prod.mk.injEq] at hs
      obtain ⟨rfl, rfl, rfl⟩ := hs
      exact XS.isub X.here hx rfl hd rfl hr
    · cases hs
  case iand =>
    simp only [sim1] at hs
    split at hs
    · rename_i y x r
      simp only [Option.some.injEq, Prod.mk.injEq] at hs
      obtain ⟨rfl, rfl, rfl⟩ := hs
      exact XS.iand X.here hx rfl hd rfl hr
    · cases hs
  case imul =>
    simp only [sim1] at hs
    split at hs
    · rename_i y x r
      simp only [Option.some.injEq, Prod.mk.injEq] at hs
      obtain ⟨rfl, rfl, rfl⟩ := hs
      exact XS.imul X.here hx rfl hd rfl hr
    · cases hs
  case ixor =>
    simp only [sim1] at hs
    split at hs
    · rename_i y x r
      simp only [Option.some.injEq, Prod.mk.injEq] at hs
      obtain ⟨rfl, rfl, rfl⟩ := hs
      exact XT.ixor X.here hx rfl hd rfl hr
    · cases hs
  case ior =>
    simp only [sim1] at hs
    split at hs
    · rename_i y x r
      simp only [Option.some.injEq, Prod.mk.injEq] at hs
      obtain ⟨rfl, rfl, rfl⟩ := hs
      exact XT.ior X.here hx rfl hd rfl hr
    · cases hs
  case ishl =>
    simp only [sim1] at hs
    split at hs
    · rename_i y x r
      simp only [Option.some.injEq, Prod.mk.injEq] at hs
      obtain ⟨rfl, rfl, rfl⟩ := hs
      exact XT.ishl X.here hx rfl hd rfl hr
    · cases hs
  case ishr =>
    simp only [sim1] at hs
    split at hs
    · rename_i y x r
      simp only [Option.some.injEq, Prod.mk.injEq] at hs
      obtain ⟨rfl, rfl, rfl⟩ := hs
      exact XT.ishr X.here hx rfl hd rfl hr
    · cases hs
  case iushr =>
    simp only [sim1] at hs
    split at hs
    · rename_i y x r
      simp only [Option.some.injEq, Prod.mk.injEq] at hs
      obtain ⟨rfl, rfl, rfl⟩ := hs
      exact XT.iushr X.here hx rfl hd rfl hr
    · cases hs
  case ladd =>
    simp only [sim1] at hs
    split at hs
    · rename_i y x r
      simp only [Option.some.injEq, Prod.mk.injEq] at hs
      obtain ⟨rfl, rfl, rfl⟩ := hs
      exact XT.ladd X.here hx rfl hd rfl hr
    · cases hs
  case lsub =>
    simp only [sim1] at hs
    split at hs
    · rename_i y x r
      simp only [Option.some.injEq, Prod.mk.injEq] at hs
      obtain ⟨rfl, rfl, rfl⟩ := hs
      exact XT.lsub X.here hx rfl hd rfl hr
    · cases hs
  case land =>
    simp only [sim1] at hs
    split at hs
    · rename_i y x r
      simp only [Option.some.injEq, Prod.mk.injEq] at hs
      obtain ⟨rfl, rfl, rfl⟩ := hs
      exact XT.land X.here hx rfl hd rfl hr
    · cases hs
  case lor =>
    simp only [sim1] at hs
    split at hs
    · rename_i y x r
      simp only [Option.some.injEq, Prod.mk.injEq] at hs
      obtain ⟨rfl, rfl, rfl⟩ := hs
      exact XT.lor X.here hx rfl hd rfl hr
    · cases hs
  case lxor =>
    simp only [sim1] at hs
    split at hs
    · rename_i y x r
      simp only [Option.some.injEq, Prod.mk.injEq] at hs
      obtain ⟨rfl, rfl, rfl⟩ := hs
      exact XT.lxor X.here hx rfl hd rfl hr
    · cases hs
  case lshl =>
    simp only [sim1] at hs
    split at hs
    · rename_i y x r
      simp only [Option.some.injEq, Prod.mk.injEq] at hs
      obtain ⟨rfl, rfl, rfl⟩ := hs
      exact XT.lshl X.here hx rfl hd rfl hr
    · cases hs
  case lushr =>
    simp only [sim1] at hs
    split at hs
    · rename_i y x r
      simp only [Option.some.injEq, Prod.mk.injEq] at hs
      obtain ⟨rfl, rfl, rfl⟩ := hs
      exact XT.lushr X.here hx rfl hd rfl hr
    · cases hs
  case lcmp =>
    simp only [sim1] at hs
    split at hs
    · rename_i y x r
      simp only [Option.some.injEq, Prod.mk.injEq] at hs
      obtain ⟨rfl, rfl, rfl⟩ := hs
      exact XT.lcmp X.here hx rfl hd rfl hr
    · cases hs
  case ineg =>
    simp only [sim1] at hs
    split at hs
    · rename_i x r
      simp only [Option.some.injEq, Prod.mk.injEq] at hs
      obtain ⟨rfl, rfl, rfl⟩ := hs
      exact XS.ineg X.here hx rfl hd rfl hr
    · cases hs
  case i2b =>
    simp only [sim1] at hs
    split at hs
    · rename_i x r
      simp only [Option.some.injEq, Prod.mk.injEq] at hs
      obtain ⟨rfl, rfl, rfl⟩ := hs
      exact XT.i2b X.here hx rfl hd rfl hr
    · cases hs
  case i2c =>
    simp only [sim1] at hs
    split at hs
    · rename_i x r
      simp only [Option.some.injEq, Prod.mk.injEq] at hs
      obtain ⟨rfl, rfl, rfl⟩ := hs
      exact XT.i2c X.here hx rfl hd rfl hr
    · cases hs
  case i2l =>
    simp only [sim1] at hs
    split at hs
    · rename_i x r
      simp only [Option.some.injEq, Prod.mk.injEq] at hs
      obtain ⟨rfl, rfl, rfl⟩ := hs
      exact XT.i2l X.here hx rfl hd rfl hr
    · cases hs
  case l2i =>
    simp only [sim1] at hs
    split at hs
    · rename_i x r
      simp only [Option.some.injEq, Prod.mk.injEq] at hs
      obtain ⟨rfl, rfl, rfl⟩ := hs
      exact XT.l2i X.here hx rfl hd rfl hr
    · cases hs
  case lneg =>
    simp only [sim1] at hs
    split at hs
    · rename_i x r
      simp only [Option.some.injEq, Prod.mk.injEq] at hs
      obtain ⟨rfl, rfl, rfl⟩ := hs
      exact XT.lneg X.here hx rfl hd rfl hr
    · cases hs
  case dup =>
    simp only [sim1] at hs
    split at hs
    · rename_i x r
      split at hs
      · rename_i hr2
        simp only [Option.some.injEq, Prod.mk.injEq] at hs
        obtain ⟨rfl, rfl, rfl⟩ := hs
        exact XS.dup X.here hx rfl hd rfl hr2 hr
      · cases hs
    · cases hs
  case pop =>
    simp only [sim1] at hs
    split at hs
    · rename_i x r
      split at hs
      · rename_i hr2
        simp only [Option.some.injEq, Prod.mk.injEq] at hs
        obtain ⟨rfl, rfl, rfl⟩ := hs
        exact XT.pop X.here hx rfl hd rfl hr2 hr
      · cases hs
    · cases hs
  case dup_x1 =>
    simp only [sim1] at hs
    split at hs
    · rename_i x y r
      split at hs
      · rename_i hr2
        simp only [Option.some.injEq, Prod.mk.injEq] at hs
        obtain ⟨rfl, rfl, rfl⟩ := hs
        exact XT.dupX1 X.here hx rfl hd rfl hr2.1 hr2.2 hr
      · cases hs
    · cases hs
  case dup2 =>
    simp only [sim1] at hs
    split at hs
    · rename_i x y r
      split at hs
      · rename_i hr2
        simp only [Option.some.injEq, Prod.mk.injEq] at hs
        obtain ⟨rfl, rfl, rfl⟩ := hs
        exact XT.dup2 X.here hx rfl hd rfl hr2.1 hr2.2 hr
      · cases hs
    · cases hs
  case iinc k i =>
    simp only [sim1] at hs
    split at hs
    · rename_i x hv
      split at hs
      · rename_i L hL
        simp only [Option.some.injEq, Prod.mk.injEq] at hs
        obtain ⟨rfl, rfl, rfl⟩ := hs
        exact XS.iinc X.here hx rfl hd hv hL hr
      · cases hs
    · cases hs
  all_goals (simp only [sim1, reduceCtorEq] at hs)
def simL : List (Instr × Nat) → Nat → Array Slot → List Value → Option (Nat × Array Slot × List Value)
  | [], pc, Ls, st => some (pc, Ls, st)
  | q :: r, pc, Ls, st => match sim1 q.1 Ls st with
    | some (n, L, t) => if n = q.2 then simL r (pc + n) L t else none
    | none => none
def decL (bs : ByteArray) : List (Instr × Nat) → Nat → Bool
  | [], _ => true
  | q :: r, pc => decide (decode bs pc = .ok q) && decL bs r (pc + q.2)
theorem simL_ok (X : Stand p l e R s m args below meth c T locs cells slots) (hx : p.tables.exec = Jvm.exec) {target : State} : ∀ (is : List (Instr × Nat)) (pc : Nat) (Ls : Array Slot) (st : List Value), decL c.code is pc = true → simL is pc Ls st = some (pc', Ls', st') → Steps p.tables e below (T.setTop (mkF m pc' Ls' st')) target → Steps p.tables e below (T.setTop (mkF m pc Ls st)) target
  | [], pc, Ls, st, _, h2, h3 => by
    simp only [simL, Option.some.injEq, Prod.mk.injEq] at h2
    obtain ⟨rfl, rfl, rfl⟩ := h2
    exact h3
  | q :: r, pc, Ls, st, h1, h2, h3 => by
    simp only [decL, Bool.and_eq_true, decide_eq_true_eq] at h1
    simp only [simL] at h2
    split at h2
    · rename_i n L t hs
      split at h2
      · rename_i hn
        subst hn
        exact sim1_ok X hx h1.1 hs (simL_ok X hx r _ L t h1.2 h2 h3)
      · cases h2
    · cases h2
theorem Goes.blk (A : Amb bs own mL Z p s m c) (is : List (Instr × Nat)) (h1 : decL bs is pc = true) (h2 : simL is pc Ls st = some (pc', Ls', st')) (nx : Goes p l e R s m args below meth c n0 Q h cells slots pc' Ls' st') : Goes p l e R s m args below meth c n0 Q h cells slots pc Ls st :=
  Goes.step (fun T locs X _ target k => simL_ok X A.1 is pc Ls st (by rw [A.2.1]; exact h1) h2 k) nx
theorem Goes.jump (A : Amb bs own mL Z p s m c) {o : Int} (hd : decode bs pc = .ok (.goto o, 3)) (ho : 0 ≤ (pc : Int) + o) (hp : ((pc : Int) + o).toNat = pc') (nx : Goes p l e R s m args below meth c n0 Q h cells slots pc' Ls st) : Goes p l e R s m args below meth c n0 Q h cells slots pc Ls st :=
  Goes.step (fun T locs X _ target k => XS.goto X.here A.1 rfl rfl (hb A.2.1 hd) ho hp k) nx
/-- what a comparison says, in the whole numbers -/
def cP : ClassFile.Cond → Int32 → Int32 → Prop
  | .eq, x, y => x = y
  | .ne, x, y => ¬ x = y
  | .lt, x, y => x.toInt < y.toInt
  | .ge, x, y => y.toInt ≤ x.toInt
  | .gt, x, y => y.toInt < x.toInt
  | .le, x, y => x.toInt ≤ y.toInt
theorem cP_iff (cd : ClassFile.Cond) (x y : Int32) : if_icmp.holds cd x y = true ↔ cP cd x y := by
  cases cd <;> simp [if_icmp.holds, cP, Int32.lt_iff_toInt_lt, Int32.le_iff_toInt_le]
theorem cP_not {cd : ClassFile.Cond} {x y : Int32} (hn : ¬ cP cd x y) : if_icmp.holds cd x y = false := by
  rw [← cP_iff] at hn; simpa using hn
theorem cP_f {cd : ClassFile.Cond} {x y : Int32} (q : if_icmp.holds cd x y = false) : ¬ cP cd x y := fun hc => by rw [(cP_iff cd x y).mpr hc] at q; cases q
theorem cP_t {cd : ClassFile.Cond} {x y : Int32} (q : if_icmp.holds cd x y = true) : cP cd x y := (cP_iff cd x y).mp q
def cI : ClassFile.Cond → Int → Int → Prop
  | .eq, x, y => x = y
  | .ne, x, y => ¬ x = y
  | .lt, x, y => x < y
  | .ge, x, y => y ≤ x
  | .gt, x, y => y < x
  | .le, x, y => x ≤ y
theorem cP_int {cd : ClassFile.Cond} {x y : Int32} (q : cP cd x y) : cI cd x.toInt y.toInt := by
  cases cd <;> simp only [cP, cI] at q ⊢ <;> first | exact q | exact Int32.toInt_inj.mpr q | exact fun z => q (Int32.toInt_inj.mp z)
theorem cP_nint {cd : ClassFile.Cond} {x y : Int32} (q : ¬ cP cd x y) : ¬ cI cd x.toInt y.toInt := by
  cases cd <;> simp only [cP, cI] at q ⊢ <;> first | exact q | exact fun z => q (Int32.toInt_inj.mp z) | exact fun z => q fun w => z (Int32.toInt_inj.mpr w)
theorem Goes.if1 (A : Amb bs own mL Z p s m c) {cd : ClassFile.Cond} {o : Int} {x : Int32} (hd : decode bs pc = .ok (.ifCond cd o, 3)) (ho : 0 ≤ (pc : Int) + o) (hp : ((pc : Int) + o).toNat = pc') (ny : cP cd x 0 → Goes p l e R s m args below meth c n0 Q h cells slots pc' Ls st) (nn : ¬ cP cd x 0 → Goes p l e R s m args below meth c n0 Q h cells slots (pc + 3) Ls st) : Goes p l e R s m args below meth c n0 Q h cells slots pc Ls (.int x :: st) := by
  by_cases q : cP cd x 0
  · exact Goes.step (fun T locs X _ target k => XS.ifYes X.here A.1 rfl rfl (hb A.2.1 hd) rfl ((if0 _ _).trans ((cP_iff _ _ _).mpr q)) ho hp k) (ny q)
  · exact Goes.step (fun T locs X _ target k => XS.ifNo X.here A.1 rfl (hb A.2.1 hd) rfl ((if0 _ _).trans (cP_not q)) k) (nn q)
theorem Goes.if2 (A : Amb bs own mL Z p s m c) {cd : ClassFile.Cond} {o : Int} {x y : Int32} (hd : decode bs pc = .ok (.if_icmp cd o, 3)) (ho : 0 ≤ (pc : Int) + o) (hp : ((pc : Int) + o).toNat = pc') (ny : cP cd x y → Goes p l e R s m args below meth c n0 Q h cells slots pc' Ls st) (nn : ¬ cP cd x y → Goes p l e R s m args below meth c n0 Q h cells slots (pc + 3) Ls st) : Goes p l e R s m args below meth c n0 Q h cells slots pc Ls (.int y :: .int x :: st) := by
  by_cases q : cP cd x y
  · exact Goes.step (fun T locs X _ target k => XS.icmpYes X.here A.1 rfl rfl (hb A.2.1 hd) rfl ((cP_iff _ _ _).mpr q) ho hp k) (ny q)
  · exact Goes.step (fun T locs X _ target k => XS.icmpNo X.here A.1 rfl (hb A.2.1 hd) rfl (cP_not q) k) (nn q)
def aP : ClassFile.ACond → Value → Value → Prop
  | .eq, x, y => x = y
  | .ne, x, y => ¬ x = y
theorem Goes.ifA (A : Amb bs own mL Z p s m c) {cd : ClassFile.ACond} {o : Int} {x y : Value} (hd : decode bs pc = .ok (.if_acmp cd o, 3)) (hx1 : x.isRef = true) (hy1 : y.isRef = true) (ho : 0 ≤ (pc : Int) + o) (hp : ((pc : Int) + o).toNat = pc') (ny : aP cd x y → Goes p l e R s m args below meth c n0 Q h cells slots pc' Ls st) (nn : ¬ aP cd x y → Goes p l e R s m args below meth c n0 Q h cells slots (pc + 3) Ls st) : Goes p l e R s m args below meth c n0 Q h cells slots pc Ls (y :: x :: st) := by
  by_cases q : aP cd x y
  · exact Goes.step (fun T locs X _ target k => XT.acmpYes X.here A.1 rfl rfl (hb A.2.1 hd) rfl hx1 hy1 (by cases cd <;> simpa [XT.acmp, aP] using q) ho hp k) (ny q)
  · exact Goes.step (fun T locs X _ target k => XT.acmpNo X.here A.1 rfl (hb A.2.1 hd) rfl hx1 hy1 (by cases cd <;> simpa [XT.acmp, aP] using q) k) (nn q)
theorem Goes.ifNullY (A : Amb bs own mL Z p s m c) {o : Int} (hd : decode bs pc = .ok (.ifnull o, 3)) (ho : 0 ≤ (pc : Int) + o) (hp : ((pc : Int) + o).toNat = pc') (nx : Goes p l e R s m args below meth c n0 Q h cells slots pc' Ls st) : Goes p l e R s m args below meth c n0 Q h cells slots pc Ls (.null :: st) :=
  Goes.step (fun T locs X _ target k => XS.ifnullYes X.here A.1 rfl rfl (hb A.2.1 hd) rfl ho hp k) nx
theorem Goes.ifNullN (A : Amb bs own mL Z p s m c) {o : Int} {b : Addr} (hd : decode bs pc = .ok (.ifnull o, 3)) (nx : Goes p l e R s m args below meth c n0 Q h cells slots (pc + 3) Ls st) : Goes p l e R s m args below meth c n0 Q h cells slots pc Ls (.ref b :: st) :=
  Goes.step (fun T locs X _ target k => XS.ifnullNo X.here A.1 rfl (hb A.2.1 hd) rfl k) nx
theorem Goes.ifNonN (A : Amb bs own mL Z p s m c) {o : Int} (hd : decode bs pc = .ok (.ifnonnull o, 3)) (nx : Goes p l e R s m args below meth c n0 Q h cells slots (pc + 3) Ls st) : Goes p l e R s m args below meth c n0 Q h cells slots pc Ls (.null :: st) :=
  Goes.step (fun T locs X _ target k => XT.ifnonnullNo X.here A.1 rfl (hb A.2.1 hd) rfl k) nx
theorem Goes.ifNonY (A : Amb bs own mL Z p s m c) {o : Int} {b : Addr} (hd : decode bs pc = .ok (.ifnonnull o, 3)) (ho : 0 ≤ (pc : Int) + o) (hp : ((pc : Int) + o).toNat = pc') (nx : Goes p l e R s m args below meth c n0 Q h cells slots pc' Ls st) : Goes p l e R s m args below meth c n0 Q h cells slots pc Ls (.ref b :: st) :=
  Goes.step (fun T locs X _ target k => XT.ifnonnullYes X.here A.1 rfl rfl (hb A.2.1 hd) rfl ho hp k) nx
theorem Goes.irem (A : Amb bs own mL Z p s m c) {x y : Int32} (hd : decode bs pc = .ok (.irem, 1)) (hy : y ≠ 0) (nx : Goes p l e R s m args below meth c n0 Q h cells slots (pc + 1) Ls (.int (x % y) :: st)) : Goes p l e R s m args below meth c n0 Q h cells slots pc Ls (.int y :: .int x :: st) :=
  Goes.step (fun T locs X _ target k => iremM X A.1 rfl (hb A.2.1 hd) rfl hy k) nx
theorem Goes.ldcI (A : Amb bs own mL Z p s m c) {index : Nat} {v : Int32} (w : (Cond.constant own index v).before a0 Z = true) (hd : decode bs pc = .ok (.ldc index, 2)) (nx : Goes p l e R s m args below meth c n0 Q h cells slots (pc + 2) Ls (.int v :: st)) : Goes p l e R s m args below meth c n0 Q h cells slots pc Ls st :=
  Goes.step (fun T locs X _ target k => Jvm.Stand.ldcI X A.1 A.2.2.2.1 (mvT A.2.2.1 w) rfl (hb A.2.1 hd) k) nx
theorem Goes.swIn (A : Amb bs own mL Z p s m c) {dflt low high : Int} {offs : Array Int} {len : Nat} {o : Int} {i : Int32} (hd : decode bs pc = .ok (.tableswitch dflt low high offs, len)) (hin : ¬ (i.toInt < low ∨ i.toInt > high)) (hoff : offs[(i.toInt - low).toNat]? = some o) (ho : 0 ≤ (pc : Int) + o) (hp : ((pc : Int) + o).toNat = pc') (nx : Goes p l e R s m args below meth c n0 Q h cells slots pc' Ls st) : Goes p l e R s m args below meth c n0 Q h cells slots pc Ls (.int i :: st) :=
  Goes.step (fun T locs X _ target k => XS.tswIn X.here A.1 rfl rfl (hb A.2.1 hd) rfl hin hoff ho hp k) nx
theorem Goes.getS (A : Amb bs own mL Z p s m c) {R0 O n d : String} {index : Nat} {v : Value} (w : (Cond.fieldLink own index R0 n d).before a0 Z = true) (via : Via Z R0 O n d) (F : Sta Z h O n d v) (hd : decode bs pc = .ok (.getstatic index, 3)) (nx : Goes p l e R s m args below meth c n0 Q h cells slots (pc + 3) Ls (v :: st)) : Goes p l e R s m args below meth c n0 Q h cells slots pc Ls st :=
  Goes.stay (fun T locs X eT => Jvm.RoadKit.getS (host := "") (g := mkF m pc Ls st) X A.1 A.2.2.1 A.2.2.2.1 w via eT F rfl (hb A.2.1 hd)) nx
theorem Goes.getF (A : Amb bs own mL Z p s m c) {R0 O n d : String} {index : Nat} {v : Value} {a : Addr} (w : (Cond.fieldLink own index R0 n d).before a0 Z = true) (via : Via Z R0 O n d) (F : Fld Z h a O n d v) (hd : decode bs pc = .ok (.getfield index, 3)) (nx : Goes p l e R s m args below meth c n0 Q h cells slots (pc + 3) Ls (v :: st)) : Goes p l e R s m args below meth c n0 Q h cells slots pc Ls (.ref a :: st) :=
  Goes.stay (fun T locs X eT => Jvm.RoadKit.getF (host := "") (g := mkF m pc Ls (.ref a :: st)) X A.1 A.2.2.1 A.2.2.2.1 (Or.inl w) via eT F rfl rfl (hb A.2.1 hd)) nx
theorem Goes.retV (A : Amb bs own mL Z p s m c) (hret : meth.sig.returnType = none) (hlk : meth.locks = false) (hd : decode bs pc = .ok (.return_, 1)) (hc : cells ≤ R.cells) (hs : slots ≤ R.slots) (hQ : Q none h) : Goes p l e R s m args below meth c n0 Q h cells slots pc Ls [] := by
  intro T locs X N eT
  obtain ⟨fs, hr, hrun, hended, hW, hsame⟩ := X.leave (v := none) (fun _ => rfl) hlk
  exact ⟨_, none, locs, X.returnOut A.1 hret (hb A.2.1 hd) hr, hrun, hended, (by subst eT; exact hQ), N, ⟨_, rfl⟩, hW, hsame.mono hc hs⟩
theorem Goes.retB (A : Amb bs own mL Z p s m c) {t : FieldType} {z z' : Int32} (hret : meth.sig.returnType = some t) (ht : t = .boolean ∨ t = .byte ∨ t = .char ∨ t = .short) (hlk : meth.locks = false) (hd : decode bs pc = .ok (.ireturn, 1)) (hn : nar t z = z') (hc : cells ≤ R.cells) (hs : slots ≤ R.slots) (hQ : Q (some (.int z')) h) : Goes p l e R s m args below meth c n0 Q h cells slots pc Ls (.int z :: st) := by
  subst hn
  intro T locs X N eT
  obtain ⟨fs, hr, hrun, hended, hW, hsame⟩ := X.leave (v := some (.int (nar t z))) (fun q => by rw [hret] at q; cases q) hlk
  exact ⟨_, some (.int (nar t z)), locs, retN X A.1 hret ht (hb A.2.1 hd) hr, hrun, hended, (by subst eT; exact hQ), N, ⟨_, rfl⟩, hW, hsame.mono hc hs⟩
theorem Goes.retI (A : Amb bs own mL Z p s m c) {z : Int32} (hret : meth.sig.returnType = some .int) (hlk : meth.locks = false) (hd : decode bs pc = .ok (.ireturn, 1)) (hc : cells ≤ R.cells) (hs : slots ≤ R.slots) (hQ : Q (some (.int z)) h) : Goes p l e R s m args below meth c n0 Q h cells slots pc Ls (.int z :: st) := by
  intro T locs X N eT
  obtain ⟨fs, hr, hrun, hended, hW, hsame⟩ := X.leave (v := some (.int z)) (fun q => by rw [hret] at q; cases q) hlk
  exact ⟨_, some (.int z), locs, retOut X A.1 hret rfl (Or.inl ⟨rfl, Or.inl rfl, z, rfl⟩) (hb A.2.1 hd) hr, hrun, hended, (by subst eT; exact hQ), N, ⟨_, rfl⟩, hW, hsame.mono hc hs⟩
theorem Goes.retA (A : Amb bs own mL Z p s m c) {t : FieldType} {v : Value} (hret : meth.sig.returnType = some t) (ht : t.isReference = true) (hv : v.isRef = true) (hn : narrow t v = v) (hlk : meth.locks = false) (hd : decode bs pc = .ok (.areturn, 1)) (hc : cells ≤ R.cells) (hs : slots ≤ R.slots) (hQ : Q (some v) h) : Goes p l e R s m args below meth c n0 Q h cells slots pc Ls (v :: st) := by
  intro T locs X N eT
  obtain ⟨fs, hr, hrun, hended, hW, hsame⟩ := X.leave (v := some v) (fun q => by rw [hret] at q; cases q) hlk
  exact ⟨_, some v, locs, retOut X A.1 hret hn (Or.inr (Or.inr (Or.inr (Or.inr ⟨rfl, ht, hv⟩)))) (hb A.2.1 hd) hr, hrun, hended, (by subst eT; exact hQ), N, ⟨_, rfl⟩, hW, hsame.mono hc hs⟩
/-- a body's contract: called with these arguments at this heap it returns, and Qc holds; what it writes lies at or above n0 -/
def Con (l : Launch) (Z : State) (n0 : Nat) (y : MethodName) (bs : ByteArray) (mL : Nat) (ret : Option FieldType) (rm : Room) (as : Array Value) (h : Heap) (Qc : Option Value → Heap → Prop) : Prop :=
  ∀ ws : List Jvm.Cond, MetFree l y (head1 (Jvm.Cond.code y bs mL ret :: ws) rm) (fun a U => a = as ∧ Z.Warmed39 U.vm ∧ U.heap = h) (fun _ _ _ _ _ => True) (fun _ U o U' => ∃ v L, o = .returned v ∧ (Qc v U'.heap ∧ Fr n0 L) ∧ FrameEnd U o U' L rm.cells rm.slots)
theorem Con.mk {y : MethodName} {ret : Option FieldType} {as : Array Value} {rm : Room} (hpn : plainName y.cls = true) (hef : ∀ m, entryFrame m as mL = mkF m 0 Ls [])
    (body : ∀ (p : Program) (e : Env) (s : State) (m : MethodId) (below : List Frame) (meth : Method) (c : Code), Amb bs y.cls mL Z p s m c → meth.sig.returnType = ret → meth.locks = false → meth.name = y.name → Goes p l e rm s m as below meth c n0 Q h 0 0 0 Ls []) : Con l Z n0 y bs mL ret rm as h Q := by
  intro ws
  refine MetFree.of_bodySF (plainFor_of_name hpn) hisR ?_
  intro p e s m args below meth c s₁ Bd hml0 hP hK
  obtain ⟨rfl, hZ, hh⟩ := hP
  have X0 : Stand p l e rm s m _ below meth c s₁ [] 0 0 := Stand.of_body Bd
  have e0 : s₁.heap = h := by rw [← hh, Bd.state]; rfl
  obtain ⟨s₂, v, L, h1, h2, h3, h4, h5, h6⟩ := body p e s m below meth c ⟨Bd.exec, Bd.bytes, hZ, findClass_of_methodNamed Bd.named, hml0⟩ Bd.returns (BodyLoose.notSynchronized Bd) (name_of_methodNamed Bd.named Bd.method).1 s₁ [] X0 (Fr.nil _) e0
  exact ⟨s₂, _, castTop (hef m) h1, h2, h3, v, L, rfl, ⟨h4, h5⟩, h6⟩
theorem Con.mono {y : MethodName} {ret : Option FieldType} {as : Array Value} {rm : Room} {Q' : Option Value → Heap → Prop} (K : Con l Z n0 y bs mL ret rm as h Q) (f : ∀ v h', Q v h' → Q' v h') : Con l Z n0 y bs mL ret rm as h Q' := by
  intro ws p e h1 h2 h3 s m args below h4 h5 h6 h7
  obtain ⟨n, o, g1, g2, g3, v, L, g4, g5, g6⟩ := K ws p e h1 h2 h3 s m args below h4 h5 h6 h7
  exact ⟨n, o, g1, g2, g3, v, L, g4, ⟨f _ _ g5.1, g5.2⟩, g6⟩
theorem Goes.static (A : Amb bs own mL Z p s m c) {index : Nat} {y : MethodName} {bc : ByteArray} {mC W : Nat} {ret : Option FieldType} {rm : Room} {argsL : List Value} {Qc : Option Value → Heap → Prop} {ps : List FieldType} {r : Option FieldType}
    (hlink : (Jvm.Cond.methodLink own index y).before a0 Z = true) (hstat : (Jvm.Cond.static y).before a0 Z = true) (hinit : (Jvm.Cond.initialized y.cls).before a0 Z = true) (hcode : (Jvm.Cond.code y bc mC ret).before a0 Z = true)
    (hd : decode bs pc = .ok (.invokestatic index, 3)) (hlen : parseMethodDescriptor y.desc = some ⟨ps, r⟩) (hy : y.cls ≠ "java/lang/invoke/MethodHandle" ∧ y.cls ≠ "java/lang/invoke/VarHandle")
    (hl : argsL.length = ps.length) (hst : st = argsL.reverse ++ rest) (hsz : Ls.size = mL) (hW : (rest.map fun v => v.category).sum ≤ W)
    (hf : rm.frames + 1 ≤ R.frames) (hlo : W + (mC + 11) + rm.locals ≤ R.locals) (hcl : cells + rm.cells ≤ R.cells) (hsl : slots + rm.slots ≤ R.slots)
    (K : Con l Z n0 y bc mC ret rm argsL.toArray h Qc)
    (nx : ∀ (v : Option Value) (h' : Heap), Qc v h' → Goes p l e R s m args below meth c n0 Q h' (cells + rm.cells) (slots + rm.slots) (pc + 3) Ls (v.toList ++ rest)) : Goes p l e R s m args below meth c n0 Q h cells slots pc Ls st := by
  intro T locs X N eT
  obtain ⟨v, _, ⟨T', L', k', n'⟩, -, X', ⟨Lc, hQ, q1, q2, q3⟩, stp⟩ := Jvm.LawKit.callS X A.1 A.2.2.2.1 (mvT A.2.2.1 hlink) (mvT A.2.2.1 hstat) (mvT A.2.2.1 hinit) (mvT A.2.2.1 hcode) hy (backOf (Q := fun v h' L => Qc v h' ∧ Fr n0 L) (W := W) (K []) A.2.2.1 hcode hinit hf hlo) (g := mkF m pc Ls st) rfl (by rw [A.2.2.2.2]; exact hsz) (argsL := argsL) (rest := rest) (lenOf hlen hl) hst (by show 2 * 0 + _ ≤ _; omega) (hb A.2.1 hd) (fun _ _ => ⟨rfl, eT, hcl, hsl⟩)
  dsimp only [Pt.U, Pt.locs, Pt.cells, Pt.slots] at X' q1 q2 q3 stp hQ
  subst q1 q2 q3
  obtain ⟨s₂, v2, L2, h1, r2⟩ := nx v T'.heap hQ.1 T' _ X' (Fr.app N hQ.2) rfl
  exact ⟨s₂, v2, L2, stp _ h1, r2⟩
theorem Goes.virt (A : Amb bs own mL Z p s m c) {index : Nat} {y z : MethodName} {C : String} {bc : ByteArray} {mC W : Nat} {ret : Option FieldType} {rm : Room} {a : Addr} {argsL : List Value} {Qc : Option Value → Heap → Prop} {ps : List FieldType} {r : Option FieldType}
    (hlink : (Jvm.Cond.methodLink own index y).before a0 Z = true) (hdecl : (Jvm.Cond.declares y).before a0 Z = true) (hsy : (Jvm.Cond.selects y.cls y y).before a0 Z = true) (hsel : (Jvm.Cond.selects C y z).before a0 Z = true) (hinst : (Jvm.Cond.instanceMethod z).before a0 Z = true) (hinit : (Jvm.Cond.initialized z.cls).before a0 Z = true) (hcode : (Jvm.Cond.code z bc mC ret).before a0 Z = true)
    (hd : decode bs pc = .ok (.invokevirtual index, 3)) (hlen : parseMethodDescriptor y.desc = some ⟨ps, r⟩) (hy : y.cls ≠ "java/lang/invoke/MethodHandle" ∧ y.cls ≠ "java/lang/invoke/VarHandle")
    (E : Exa Z h a C) (hl : argsL.length = ps.length) (hst : st = argsL.reverse ++ .ref a :: rest) (hsz : Ls.size = mL) (hW : (rest.map fun v => v.category).sum ≤ W)
    (hf : rm.frames + 1 ≤ R.frames) (hlo : W + (mC + 11) + rm.locals ≤ R.locals) (hcl : cells + rm.cells ≤ R.cells) (hsl : slots + rm.slots ≤ R.slots)
    (K : Con l Z n0 z bc mC ret rm (.ref a :: argsL).toArray h Qc)
    (nx : ∀ (v : Option Value) (h' : Heap), Qc v h' → Goes p l e R s m args below meth c n0 Q h' (cells + rm.cells) (slots + rm.slots) (pc + 3) Ls (v.toList ++ rest)) : Goes p l e R s m args below meth c n0 Q h cells slots pc Ls st := by
  intro T locs X N eT
  obtain ⟨cq, kq, qa, qb, qc⟩ := isOf A.2.2.1 eT E
  obtain ⟨v, _, ⟨T', L', k', n'⟩, -, X', ⟨Lc, hQ, q1, q2, q3⟩, stp⟩ := X.virtualBack A.1 (y := y) (z := z) A.2.2.2.1 (mvT A.2.2.1 hlink) (mvT A.2.2.1 hdecl) (notFace_of_selects (args := #[]) (mvT A.2.2.1 hsy)) (mvT A.2.2.1 hsel) (mvT A.2.2.1 hinst) hy (backOf (Q := fun v h' L => Qc v h' ∧ Fr n0 L) (W := W) (K []) A.2.2.1 hcode hinit hf hlo) qa qc (g := mkF m pc Ls st) rfl (by rw [A.2.2.2.2]; exact hsz) (Steps.refl _) (argsL := argsL) (rest := rest) (lenOf hlen hl) hst (by show 2 * 0 + _ ≤ _; omega) (hb A.2.1 hd) (fun _ _ => ⟨rfl, eT, hcl, hsl⟩)
  dsimp only [Pt.U, Pt.locs, Pt.cells, Pt.slots] at X' q1 q2 q3 stp hQ
  subst q1 q2 q3
  obtain ⟨s₂, v2, L2, h1, r2⟩ := nx v T'.heap hQ.1 T' _ X' (Fr.app N hQ.2) rfl
  exact ⟨s₂, v2, L2, stp.trans h1, r2⟩
theorem Goes.virtU (A : Amb bs own mL Z p s m c) {index : Nat} {y z : MethodName} {C owner : String} {bc : ByteArray} {mC W : Nat} {ret : Option FieldType} {rm : Room} {a : Addr} {argsL : List Value} {Qc : Option Value → Heap → Prop} {ps : List FieldType} {r : Option FieldType}
    (hlink : (Jvm.Cond.methodLink own index y).before a0 Z = true) (hsame : (Jvm.Cond.sameMethod y.cls owner y.name y.desc).before a0 Z = true) (hdecl : (Jvm.Cond.declares ⟨owner, y.name, y.desc⟩).before a0 Z = true) (hsel : (Jvm.Cond.selects C y z).before a0 Z = true) (hinst : (Jvm.Cond.instanceMethod z).before a0 Z = true) (hinit : (Jvm.Cond.initialized z.cls).before a0 Z = true) (hcode : (Jvm.Cond.code z bc mC ret).before a0 Z = true)
    (hd : decode bs pc = .ok (.invokevirtual index, 3)) (hlen : parseMethodDescriptor y.desc = some ⟨ps, r⟩) (hy : owner ≠ "java/lang/invoke/MethodHandle" ∧ owner ≠ "java/lang/invoke/VarHandle")
    (E : Exa Z h a C) (hl : argsL.length = ps.length) (hst : st = argsL.reverse ++ .ref a :: rest) (hsz : Ls.size = mL) (hW : (rest.map fun v => v.category).sum ≤ W)
    (hf : rm.frames + 1 ≤ R.frames) (hlo : W + (mC + 11) + rm.locals ≤ R.locals) (hcl : cells + rm.cells ≤ R.cells) (hsl : slots + rm.slots ≤ R.slots)
    (K : Con l Z n0 z bc mC ret rm (.ref a :: argsL).toArray h Qc)
    (nx : ∀ (v : Option Value) (h' : Heap), Qc v h' → Goes p l e R s m args below meth c n0 Q h' (cells + rm.cells) (slots + rm.slots) (pc + 3) Ls (v.toList ++ rest)) : Goes p l e R s m args below meth c n0 Q h cells slots pc Ls st := by
  intro T locs X N eT
  obtain ⟨cq, kq, qa, qb, qc⟩ := isOf A.2.2.1 eT E
  obtain ⟨v, _, ⟨T', L', k', n'⟩, -, X', ⟨Lc, hQ, q1, q2, q3⟩, stp⟩ := X.virtualBackUp A.1 (x := y) (y := z) (owner := owner) A.2.2.2.1 (mvT A.2.2.1 hlink) (mvT A.2.2.1 hsame) (mvT A.2.2.1 hdecl) hy (mvT A.2.2.1 hsel) (mvT A.2.2.1 hinst) (backOf (Q := fun v h' L => Qc v h' ∧ Fr n0 L) (W := W) (K []) A.2.2.1 hcode hinit hf hlo) qa qc (g := mkF m pc Ls st) rfl (by rw [A.2.2.2.2]; exact hsz) (Steps.refl _) (argsL := argsL) (rest := rest) (lenOf hlen hl) hst (by show 2 * 0 + _ ≤ _; omega) (hb A.2.1 hd) (fun _ _ => ⟨rfl, eT, hcl, hsl⟩)
  dsimp only [Pt.U, Pt.locs, Pt.cells, Pt.slots] at X' q1 q2 q3 stp hQ
  subst q1 q2 q3
  obtain ⟨s₂, v2, L2, h1, r2⟩ := nx v T'.heap hQ.1 T' _ X' (Fr.app N hQ.2) rfl
  exact ⟨s₂, v2, L2, stp.trans h1, r2⟩
theorem Goes.spec (A : Amb bs own mL Z p s m c) {index : Nat} {y : MethodName} {bc : ByteArray} {mC W : Nat} {rm : Room} {a : Addr} {argsL : List Value} {Qc : Option Value → Heap → Prop} {ps : List FieldType} {r : Option FieldType} (hy1 : y.name = "<init>")
    (hlink : (Jvm.Cond.methodLink own index y).before a0 Z = true) (hinst : (Jvm.Cond.instanceMethod y).before a0 Z = true) (hinit : (Jvm.Cond.initialized y.cls).before a0 Z = true) (hcode : (Jvm.Cond.code y bc mC none).before a0 Z = true)
    (hd : decode bs pc = .ok (.invokespecial index, 3)) (hlen : parseMethodDescriptor y.desc = some ⟨ps, r⟩) (hy : y.cls ≠ "java/lang/invoke/MethodHandle" ∧ y.cls ≠ "java/lang/invoke/VarHandle")
    (hl : argsL.length = ps.length) (hst : st = argsL.reverse ++ .ref a :: rest) (hsz : Ls.size = mL) (hW : (rest.map fun v => v.category).sum ≤ W)
    (hf : rm.frames + 1 ≤ R.frames) (hlo : W + (mC + 11) + rm.locals ≤ R.locals) (hcl : cells + rm.cells ≤ R.cells) (hsl : slots + rm.slots ≤ R.slots)
    (K : Con l Z n0 y bc mC none rm (.ref a :: argsL).toArray h Qc)
    (nx : ∀ (v : Option Value) (h' : Heap), Qc v h' → Goes p l e R s m args below meth c n0 Q h' (cells + rm.cells) (slots + rm.slots) (pc + 3) Ls (v.toList ++ rest)) : Goes p l e R s m args below meth c n0 Q h cells slots pc Ls st := by
  intro T locs X N eT
  obtain ⟨v, _, ⟨T', L', k', n'⟩, -, X', ⟨Lc, hQ, q1, q2, q3⟩, stp⟩ := X.specialBack A.1 (y := y) hy1 A.2.2.2.1 (mvT A.2.2.1 hlink) (mvT A.2.2.1 hinst) (mvT A.2.2.1 hcode) hy (backOf (Q := fun v h' L => Qc v h' ∧ Fr n0 L) (W := W) (K []) A.2.2.1 hcode hinit hf hlo) (g := mkF m pc Ls st) rfl (by rw [A.2.2.2.2]; exact hsz) (Steps.refl _) (a := a) (argsL := argsL) (rest := rest) (lenOf hlen hl) hst (by show 2 * 0 + _ ≤ _; omega) (hb A.2.1 hd) (fun _ _ => ⟨rfl, eT, hcl, hsl⟩)
  dsimp only [Pt.U, Pt.locs, Pt.cells, Pt.slots] at X' q1 q2 q3 stp hQ
  subst q1 q2 q3
  obtain ⟨s₂, v2, L2, h1, r2⟩ := nx v T'.heap hQ.1 T' _ X' (Fr.app N hQ.2) rfl
  exact ⟨s₂, v2, L2, stp.trans h1, r2⟩
end Own
section Own2
variable {Z : State} {a0 : Array Value} {n0 : Nat} {h h' hS : Heap} {ws : List Addr}
/-- what stands at an address: (may it be written), an object of a class with some of its fields, or an array with its components -/
abbrev AO : Type := Addr × Bool × ((String × List ((String × String × String) × Value)) ⊕ (FieldType × List Value))
abbrev SO : Type := (String × String × String) × Value
def RepO (Z : State) (a0 : Array Value) (n0 : Nat) (h : Heap) (o : AO) : Prop :=
  (o.2.1 = true → n0 ≤ o.1) ∧ match o.2.2 with
  | .inl q => Exa Z h o.1 q.1 ∧ (∀ f ∈ q.2, Fld Z h o.1 f.1.1 f.1.2.1 f.1.2.2 f.2 ∧ Laid Z a0 q.1 f.1.1 f.1.2.1 f.1.2.2 ∧ ∃ t, parseFieldDescriptor f.1.2.2 = some t) ∧ (q.2.map fun f => f.1.2.1).Nodup
  | .inr q => ∃ c : Cell, Arr Z h o.1 c q.1 ∧ c.slots.toList = q.2 ∧ (∀ v ∈ q.2, fits q.1 v = true) ∧ q.2.length < 2 ^ 31
def Rep (Z : State) (a0 : Array Value) (n0 : Nat) (h : Heap) (G : List SO) (B : List AO) : Prop :=
  (∀ g ∈ G, Sta Z h g.1.1 g.1.2.1 g.1.2.2 g.2) ∧ (∀ o ∈ B, RepO Z a0 n0 h o) ∧ (B.map fun o => o.1).Nodup
variable {o o' : AO} {G G' : List SO} {B B' : List AO}
theorem al0 {α : Type} {P : α → Prop} : ∀ x ∈ ([] : List α), P x := fun _ q => nomatch q
theorem alS {α : Type} {P : α → Prop} {y : α} {L : List α} (q : P y) (r : ∀ x ∈ L, P x) : ∀ x ∈ y :: L, P x := fun x z => (List.mem_cons.mp z).elim (fun u => u ▸ q) (r x)
theorem RepO.plain (F : RepO Z a0 n0 h o) : ∃ c : Cell, h[o.1]? = some c ∧ c.vm.isStatics = false := by
  obtain ⟨a, fl, q | q⟩ := o
  · obtain ⟨-, ⟨c, k, h1, h2, h3, h4, h5⟩, -⟩ := F
    exact ⟨c, h1, h4⟩
  · obtain ⟨-, c, A, -⟩ := F
    exact ⟨c, A.1, A.plain⟩
theorem RepO.lt (F : RepO Z a0 n0 h o) : o.1 < h.size := by
  obtain ⟨c, h1, -⟩ := F.plain
  exact (Array.getElem?_eq_some_iff.mp h1).1
theorem RepO.ext (F : RepO Z a0 n0 h o) (E : Ext h h') : RepO Z a0 n0 h' o := by
  obtain ⟨a, fl, q | q⟩ := o
  · obtain ⟨g, h1, h2, h3⟩ := F
    exact ⟨g, h1.ext E, fun f hf => ⟨(h2 f hf).1.ext E, (h2 f hf).2⟩, h3⟩
  · obtain ⟨g, c, A, r⟩ := F
    exact ⟨g, c, A.ext E, r⟩
theorem RepO.keep (F : RepO Z a0 n0 h o) (K : Keep h h' ws) (q : o.1 ∉ ws) : RepO Z a0 n0 h' o := by
  obtain ⟨a, fl, z | z⟩ := o
  · obtain ⟨g, h1, h2, h3⟩ := F
    exact ⟨g, h1.keep K, fun f hf => ⟨(h2 f hf).1.keep K q, (h2 f hf).2⟩, h3⟩
  · obtain ⟨g, c, A, r⟩ := F
    exact ⟨g, c, ⟨K.2.1 _ c A.1 q, A.2⟩, r⟩
theorem sta_kp {C n d : String} {v : Value} (F : Sta Z h C n d v) (K : Keep h h' ws) (q : ∀ w ∈ ws, ∃ c : Cell, h[w]? = some c ∧ c.vm.isStatics = false) : Sta Z h' C n d v := by
  obtain ⟨cf, i, k, f, st, cell, h1, h2, h3, h4, h5, h6, h7⟩ := F
  refine ⟨cf, i, k, f, st, cell, h1, h2, h3, h4, K.2.1 st cell h5 fun z => ?_, h6, h7⟩
  obtain ⟨c, r1, r2⟩ := q st z
  cases h5.symm.trans r1
  rw [h6] at r2; cases r2
theorem Rep.at (R : Rep Z a0 n0 h G B) {i : Nat} (hi : B[i]? = some o) : RepO Z a0 n0 h o := R.2.1 o (List.mem_of_getElem? hi)
theorem Rep.inj (R : Rep Z a0 n0 h G B) {i j : Nat} (hi : B[i]? = some o) (hj : B[j]? = some o') (e : o.1 = o'.1) : i = j := by
  have h1 : (B.map fun o => o.1)[i]? = some o.1 := by simp [hi]
  have h2 : (B.map fun o => o.1)[j]? = some o'.1 := by simp [hj]
  have hl : i < (B.map fun o => o.1).length := (List.getElem?_eq_some_iff.mp h1).1
  exact (List.getElem?_inj hl R.2.2).mp (by rw [h1, h2, e])
theorem Rep.ne (R : Rep Z a0 n0 h G B) {i j : Nat} (hi : B[i]? = some o) (hj : B[j]? = some o') (e : i ≠ j) : o.1 ≠ o'.1 := fun q => e (R.inj hi hj q)
theorem Rep.ext (R : Rep Z a0 n0 h G B) (E : Ext h h') : Rep Z a0 n0 h' G B := ⟨fun g hg => (R.1 g hg).ext E, fun o ho => (R.2.1 o ho).ext E, R.2.2⟩
theorem Rep.set (R : Rep Z a0 n0 h G B) {i : Nat} (hi : B[i]? = some o) (K : Keep h h' [o.1]) (ho : RepO Z a0 n0 h' o') (ha : o'.1 = o.1) : Rep Z a0 n0 h' G (B.set i o') := by
  refine ⟨fun g hg => sta_kp (R.1 g hg) K fun w hw => ?_, fun x hx => ?_, ?_⟩
  · cases List.mem_singleton.mp hw; exact (R.at hi).plain
  · obtain ⟨k, hk⟩ := List.mem_iff_getElem?.mp hx
    rw [List.getElem?_set] at hk
    split at hk
    · split at hk
      · cases hk; exact ho
      · cases hk
    · rename_i ne
      exact (R.at hk).keep K fun z => ne (R.inj hi hk (List.mem_singleton.mp z).symm)
  · have e : (B.set i o').map (fun o => o.1) = B.map fun o => o.1 := by
      rw [List.map_set, ha]
      refine List.ext_getElem? fun k => ?_
      rw [List.getElem?_set]
      split
      · rename_i e; subst e
        simp only [List.length_map, List.getElem?_map, hi, Option.map_some]
        rw [if_pos (List.getElem?_eq_some_iff.mp hi).1]
      · rfl
    rw [e]; exact R.2.2
theorem RepO.put {a : Addr} {fl : Bool} {C O n d : String} {fs : List SO} {j : Nat} {old v : Value} (F : RepO Z a0 n0 h (a, fl, .inl (C, fs))) (hj : fs[j]? = some ((O, n, d), old)) (W : Wr h h' a (Jvm.RoadKit.slotOf Z O n d) v) : RepO Z a0 n0 h' (a, fl, .inl (C, fs.set j ((O, n, d), v))) := by
  obtain ⟨g, h1, h2, h3⟩ := F
  have hjf := h2 _ (List.mem_of_getElem? hj)
  refine ⟨g, h1.wr W, fun f hf => ?_, ?_⟩
  · obtain ⟨k, hk⟩ := List.mem_iff_getElem?.mp hf
    rw [List.getElem?_set] at hk
    split at hk
    · split at hk
      · cases hk
        exact ⟨hjf.1.same W, hjf.2⟩
      · cases hk
    · rename_i ne
      have hkf := h2 _ (List.mem_of_getElem? hk)
      refine ⟨hkf.1.other W (Or.inr ?_), hkf.2⟩
      obtain ⟨t, ht⟩ := hkf.2.2
      obtain ⟨t', ht'⟩ := hjf.2.2
      refine slot_ne hkf.2.1 hjf.2.1 (fun e => ne ?_) ht ht'
      have q1 : (fs.map fun f => f.1.2.1)[k]? = some f.1.2.1 := by simp [hk]
      have q2 : (fs.map fun f => f.1.2.1)[j]? = some n := by simp [hj]
      have hl : j < (fs.map fun f => f.1.2.1).length := (List.getElem?_eq_some_iff.mp q2).1
      exact ((List.getElem?_inj hl h3).mp (by rw [q1, q2, e]))
  · have e : (fs.set j ((O, n, d), v)).map (fun f => f.1.2.1) = fs.map fun f => f.1.2.1 := by
      rw [List.map_set]
      refine List.ext_getElem? fun k => ?_
      rw [List.getElem?_set]
      split
      · rename_i e; subst e
        simp only [List.length_map, List.getElem?_map, hj, Option.map_some]
        rw [if_pos (List.getElem?_eq_some_iff.mp hj).1]
      · rfl
    show ((fs.set j ((O, n, d), v)).map fun f => f.1.2.1).Nodup
    rw [e]; exact h3
theorem RepO.aset {a : Addr} {fl : Bool} {ty : FieldType} {vs : List Value} {j : Nat} {v : Value} (F : RepO Z a0 n0 h (a, fl, .inr (ty, vs))) (hv : fits ty v = true) (W : Wr h h' a j v) : RepO Z a0 n0 h' (a, fl, .inr (ty, vs.set j v)) := by
  obtain ⟨g, c, A, r, r1, r2⟩ := F
  refine ⟨g, _, A.same W, by simp only [Cell.setSlot, Array.toList_setIfInBounds, r], fun x hx => ?_, by show (vs.set j v).length < 2 ^ 31; rw [List.length_set]; exact r2⟩
  rcases List.mem_or_eq_of_mem_set hx with q | q
  · exact r1 x q
  · rw [q]; exact hv
theorem Rep.push (R : Rep Z a0 n0 h G B) (E : Ext h h') (ho : RepO Z a0 n0 h' o) (ha : h.size ≤ o.1) : Rep Z a0 n0 h' G (B ++ [o]) := by
  refine ⟨(R.ext E).1, fun x hx => ?_, ?_⟩
  · rcases List.mem_append.mp hx with q | q
    · exact (R.ext E).2.1 x q
    · cases List.mem_singleton.mp q; exact ho
  · rw [List.map_append, List.nodup_append]
    refine ⟨R.2.2, by simp, fun x hx y hy e => ?_⟩
    obtain ⟨z, hz, rfl⟩ := List.mem_map.mp hx
    obtain ⟨z', hz', rfl⟩ := List.mem_map.mp hy
    cases List.mem_singleton.mp hz'
    have q : z.1 < h.size := (R.2.1 z hz).lt
    rw [e] at q
    exact Nat.not_lt.mpr ha q
theorem Rep.pick (R : Rep Z a0 n0 h G B) (gs is : List Nat) (hG : gs.map (fun i => G[i]?) = G'.map some) (hB : is.map (fun i => B[i]?) = B'.map some) (hnd : is.Nodup) : Rep Z a0 n0 h G' B' := by
  have key : ∀ {k : Nat} {x : AO}, B'[k]? = some x → ∃ i, is[k]? = some i ∧ B[i]? = some x := fun {k x} hk => by
    have q : (is.map (fun i => B[i]?))[k]? = some (some x) := by rw [hB]; simp [hk]
    simp only [List.getElem?_map, Option.map_eq_some_iff] at q
    obtain ⟨i, h1, h2⟩ := q
    exact ⟨i, h1, h2⟩
  refine ⟨fun g hg => ?_, fun x hx => ?_, ?_⟩
  · obtain ⟨k, hk⟩ := List.mem_iff_getElem?.mp hg
    have q : (gs.map (fun i => G[i]?))[k]? = some (some g) := by rw [hG]; simp [hk]
    simp only [List.getElem?_map, Option.map_eq_some_iff] at q
    obtain ⟨i, h1, h2⟩ := q
    exact R.1 g (List.mem_of_getElem? h2)
  · obtain ⟨k, hk⟩ := List.mem_iff_getElem?.mp hx
    obtain ⟨i, -, hi⟩ := key hk
    exact R.at hi
  · rw [List.Nodup, List.pairwise_iff_getElem]
    intro k l hk hl hkl e
    simp only [List.length_map] at hk hl
    simp only [List.getElem_map] at e
    obtain ⟨i, h1, h2⟩ := key (List.getElem?_eq_getElem hk)
    obtain ⟨j, g1, g2⟩ := key (List.getElem?_eq_getElem hl)
    have ij := R.inj h2 g2 e
    subst ij
    have := (List.getElem?_inj (List.getElem?_eq_some_iff.mp h1).1 hnd).mp (h1.trans g1.symm)
    omega
def updL : List AO → List Nat → List AO → List AO
  | B, i :: is, b :: bs => updL (B.set i b) is bs
  | B, [], bs => B ++ bs
  | B, _ :: _, [] => B
theorem updL_mem {b : AO} : ∀ (B : List AO) (is : List Nat) (bs : List AO), b ∈ updL B is bs → b ∈ bs ∨ (∃ i, i ∉ is ∧ B[i]? = some b) ∨ bs.length < is.length
  | B, i :: is, c :: bs, q => by
    rcases updL_mem (B.set i c) is bs q with r | ⟨j, r1, r2⟩ | r
    · exact Or.inl (List.mem_cons_of_mem _ r)
    · rw [List.getElem?_set] at r2
      split at r2
      · split at r2
        · cases r2; exact Or.inl List.mem_cons_self
        · cases r2
      · rename_i ne
        exact Or.inr (Or.inl ⟨j, fun z => (List.mem_cons.mp z).elim (fun y => ne y.symm) r1, r2⟩)
    · exact Or.inr (Or.inr (by simp only [List.length_cons]; omega))
  | B, [], bs, q => by
    simp only [updL] at q
    rcases List.mem_append.mp q with r | r
    · obtain ⟨k, hk⟩ := List.mem_iff_getElem?.mp r
      exact Or.inr (Or.inl ⟨k, by simp, hk⟩)
    · exact Or.inl r
  | B, i :: is, [], q => Or.inr (Or.inr (by simp))
theorem updL_map : ∀ (B : List AO) (is : List Nat) (bs : List AO), (∀ (k i : Nat) (b : AO), is[k]? = some i → bs[k]? = some b → (B[i]?).map (fun o : AO => o.1) = some b.1) → (updL B is bs).map (fun o => o.1) = (B.map fun o => o.1) ++ ((bs.drop is.length).map fun o => o.1)
  | B, i :: is, c :: bs, q => by
    have e : (B.set i c).map (fun o => o.1) = B.map fun o => o.1 := by
      rw [List.map_set]
      refine List.ext_getElem? fun k => ?_
      rw [List.getElem?_set]
      have q0 := q 0 i c rfl rfl
      split
      · rename_i e; subst e
        simp only [List.length_map, List.getElem?_map]
        rw [q0]
        rw [if_pos (by
          cases hz : B[i]? with
          | none => simp [hz] at q0
          | some y => exact (List.getElem?_eq_some_iff.mp hz).1)]
      · rfl
    rw [updL, updL_map (B.set i c) is bs (fun k j b h1 h2 => by
      have := q (k + 1) j b (by simpa using h1) (by simpa using h2)
      rw [← this, ← List.getElem?_map, ← List.getElem?_map, e]), e]
    simp
  | B, [], bs, q => by simp [updL]
  | B, i :: is, [], q => by simp [updL]
/-- behind a call: the objects at the places 'is' are now the first of B', the rest of B' is new; all others stand -/
theorem Rep.upd (R : Rep Z a0 n0 h G B) (K : Keep h h' ws) (is : List Nat) (R' : Rep Z a0 n0 h' G' B') (hlen : is.length ≤ B'.length) (haddr : is.map (fun i => (B[i]?).map fun o => o.1) = (B'.take is.length).map fun o => some o.1) (js : List Nat) (hj : ws.map some = js.map fun j => (B[j]?).map fun o => o.1) (hjs : ∀ j ∈ js, j ∈ is) (hnew : ∀ b ∈ B'.drop is.length, h.size ≤ b.1) : Rep Z a0 n0 h' G (updL B is B') := by
  have hws : ∀ w ∈ ws, ∃ i ∈ is, (B[i]?).map (fun o => o.1) = some w := fun w hw => by
    have q : some w ∈ ws.map some := List.mem_map.mpr ⟨w, hw, rfl⟩
    rw [hj] at q
    obtain ⟨j, h1, h2⟩ := List.mem_map.mp q
    exact ⟨j, hjs j h1, h2⟩
  have hpl : ∀ w ∈ ws, ∃ c : Cell, h[w]? = some c ∧ c.vm.isStatics = false := fun w hw => by
    obtain ⟨i, -, q⟩ := hws w hw
    simp only [Option.map_eq_some_iff] at q
    obtain ⟨o, q1, rfl⟩ := q
    exact (R.at q1).plain
  have had : ∀ (k i : Nat) (b : AO), is[k]? = some i → B'[k]? = some b → (B[i]?).map (fun o : AO => o.1) = some b.1 := fun k i b h1 h2 => by
    have hk : k < is.length := (List.getElem?_eq_some_iff.mp h1).1
    have q : (is.map (fun i => (B[i]?).map fun o => o.1))[k]? = ((B'.take is.length).map fun o => some o.1)[k]? := by rw [haddr]
    simp only [List.getElem?_map, h1, Option.map_some, List.getElem?_take, hk, if_true, h2] at q
    exact Option.some.inj q
  refine ⟨fun g hg => sta_kp (R.1 g hg) K hpl, fun x hx => ?_, ?_⟩
  · rcases updL_mem B is B' hx with q | ⟨i, q1, q2⟩ | q
    · exact R'.2.1 x q
    · refine (R.at q2).keep K fun z => ?_
      obtain ⟨j, hj, e⟩ := hws _ z
      simp only [Option.map_eq_some_iff] at e
      obtain ⟨o, e1, e2⟩ := e
      exact q1 (R.inj q2 e1 e2.symm ▸ hj)
    · omega
  · rw [updL_map B is B' had, List.nodup_append]
    refine ⟨R.2.2, ?_, fun x hx y hy e => ?_⟩
    · exact List.Nodup.sublist ((List.drop_sublist _ _).map _) R'.2.2
    · obtain ⟨z, hz, rfl⟩ := List.mem_map.mp hx
      obtain ⟨z', hz', rfl⟩ := List.mem_map.mp hy
      have q : z.1 < h.size := (R.2.1 z hz).lt
      rw [e] at q
      exact Nat.not_lt.mpr (hnew z' hz') q
theorem Rep.fld (R : Rep Z a0 n0 h G B) {i j : Nat} {a : Addr} {fl : Bool} {C : String} {fs : List SO} {g : SO} (hi : B[i]? = some (a, fl, .inl (C, fs))) (hj : fs[j]? = some g) : Fld Z h a g.1.1 g.1.2.1 g.1.2.2 g.2 := ((R.at hi).2.2.1 _ (List.mem_of_getElem? hj)).1
theorem Rep.exa (R : Rep Z a0 n0 h G B) {i : Nat} {a : Addr} {fl : Bool} {C : String} {fs : List SO} (hi : B[i]? = some (a, fl, .inl (C, fs))) : Exa Z h a C := (R.at hi).2.1
theorem Rep.low (R : Rep Z a0 n0 h G B) {i : Nat} {a : Addr} {q} (hi : B[i]? = some (a, true, q)) : n0 ≤ a := (R.at hi).1 rfl
theorem Rep.sta (R : Rep Z a0 n0 h G B) {i : Nat} {g : SO} (hi : G[i]? = some g) : Sta Z h g.1.1 g.1.2.1 g.1.2.2 g.2 := R.1 g (List.mem_of_getElem? hi)
def LayL (Z : State) (a0 : Array Value) (C : String) : List SO → Prop
  | [] => True
  | f :: r => (Laid Z a0 C f.1.1 f.1.2.1 f.1.2.2 ∧ ∃ ty, parseFieldDescriptor f.1.2.2 = some ty ∧ f.2 = defaultValue ty) ∧ LayL Z a0 C r
theorem LayL.mem {C : String} {f : SO} : ∀ {fs : List SO}, LayL Z a0 C fs → f ∈ fs → Laid Z a0 C f.1.1 f.1.2.1 f.1.2.2 ∧ ∃ ty, parseFieldDescriptor f.1.2.2 = some ty ∧ f.2 = defaultValue ty
  | [], _, q => by cases q
  | g :: r, ⟨h1, h2⟩, q => by
    rcases List.mem_cons.mp q with rfl | q
    · exact h1
    · exact LayL.mem h2 q
end Own2
section Own3
variable {p : Program} {l : Launch} {e : Env} {R : Room} {s : State} {m : MethodId} {args : Array Value} {below : List Frame} {meth : Method} {c : Code} {Z : State} {a0 : Array Value} {n0 : Nat} {Q : Option Value → Heap → Prop} {h : Heap} {cells slots pc pc' : Nat} {Ls Ls' : Array Slot} {st st' rest : List Value} {bs : ByteArray} {own : String} {mL : Nat} {T : State} {locs : List Loc}
variable {hS : Heap} {ws : List Addr} {G : List SO} {B : List AO}
theorem Goes.put (A : Amb bs own mL Z p s m c) {R0 O n d C : String} {index kk i j : Nat} {a : Addr} {v old : Value} {fs : List SO} {ty : FieldType} (w : (Jvm.Cond.fieldLink own index R0 n d).before a0 Z = true) (via : Via Z R0 O n d) (Rp : Rep Z a0 n0 h G B) (K : Keep hS h ws) (hi : B[i]? = some (a, true, .inl (C, fs))) (hj : fs[j]? = some ((O, n, d), old))
    (ka : a ∈ ws ∨ hS.size ≤ a) (L : (Jvm.Cond.lays C O n d).before a0 Z = true ∨ ((Jvm.Cond.laysFinal C O n d).before a0 Z = true ∧ own = O ∧ meth.name = "<init>")) (wi : (Jvm.Cond.instantiable C kk).before a0 Z = true) (hty : parseFieldDescriptor d = some ty) (hn : narrow ty v = v) (hf : fits ty v = true) (hd : decode bs pc = .ok (.putfield index, 3))
    (nx : ∀ h', Keep hS h' ws → Rep Z a0 n0 h' G (B.set i (a, true, .inl (C, fs.set j ((O, n, d), v)))) → Goes p l e R s m args below meth c n0 Q h' cells slots (pc + 3) Ls st) : Goes p l e R s m args below meth c n0 Q h cells slots pc Ls (v :: .ref a :: st) := by
  intro T locs X N eT
  obtain ⟨T', h', X', eT', W, stp⟩ := Jvm.RoadKit.putF (host := "") (g := mkF m pc Ls (v :: .ref a :: st)) X A.1 A.2.2.1 A.2.2.2.1 (Or.inl w) via eT (Rp.fld hi hj) (Rp.exa hi) L wi hty hn hf rfl rfl (hb A.2.1 hd)
  obtain ⟨s₂, v2, L2, h1, r2⟩ := nx h' (K.wr W ka) (Rp.set hi (Keep.of_wr W) ((Rp.at hi).put hj W) rfl) T' _ X' (N.app fun y hy => by cases List.mem_singleton.mp hy; exact Rp.low hi) eT'
  exact ⟨s₂, v2, L2, stp _ h1, r2⟩
theorem Goes.newObj (A : Amb bs own mL Z p s m c) {C : String} {index n : Nat} {fs : List SO} (w : (Jvm.Cond.classLink own index C).before a0 Z = true) (wi : (Jvm.Cond.instantiable C n).before a0 Z = true) (wz : (Jvm.Cond.initialized C).before a0 Z = true) (Rp : Rep Z a0 n0 h G B) (K : Keep hS h ws) (Z0 : n0 ≤ hS.size) (hfs : LayL Z a0 C fs) (hnd : (fs.map fun f => f.1.2.1).Nodup) (hd : decode bs pc = .ok (.new index, 3)) (hc : cells + 1 ≤ R.cells) (hl : slots + n ≤ R.slots)
    (nx : ∀ a h', hS.size ≤ a → h.size ≤ a → Keep hS h' ws → Rep Z a0 n0 h' G (B ++ [(a, true, .inl (C, fs))]) → Goes p l e R s m args below meth c n0 Q h' (cells + 1) (slots + n) (pc + 3) Ls (.ref a :: st)) : Goes p l e R s m args below meth c n0 Q h cells slots pc Ls st := by
  intro T locs X N eT
  obtain ⟨T', h', X', eT', E, Ex, D, -, stp⟩ := newO X A.1 A.2.2.1 A.2.2.2.1 w wi wz eT (g := mkF m pc Ls st) rfl (hb A.2.1 hd) hc hl
  have ho : RepO Z a0 n0 h' (h.size, true, .inl (C, fs)) := by
    refine ⟨fun _ => Nat.le_trans Z0 K.1, Ex, fun f hf => ?_, hnd⟩
    obtain ⟨q1, ty, q2, q3⟩ := LayL.mem hfs hf
    exact ⟨by rw [q3]; exact D q1 q2, q1, ty, q2⟩
  obtain ⟨s₂, v2, L2, h1, r2⟩ := nx h.size h' K.1 (Nat.le_refl _) (K.ext E) (Rp.push E ho (Nat.le_refl _)) T' _ X' N eT'
  exact ⟨s₂, v2, L2, stp _ h1, r2⟩
theorem toNat_lit {n : Int32} {k : Nat} (q : n.toInt = k) : n.toNatClampNeg = k := by simp only [Int32.toNatClampNeg, q]; rfl
theorem Goes.newArr (A : Amb bs own mL Z p s m c) {aty : ArrayType} {n : Int32} {k : Nat} (w : (Jvm.Cond.arrayClass (newarray.typeOf aty)).before a0 Z = true) (Rp : Rep Z a0 n0 h G B) (K : Keep hS h ws) (Z0 : n0 ≤ hS.size) (hd : decode bs pc = .ok (.newarray aty, 2)) (hk : n.toInt = k) {cap : Nat} (hcap : k ≤ cap) (hb8 : cap * 8 ≤ 536870912) (hc : cells + 1 ≤ R.cells) (hl : slots + cap ≤ R.slots)
    (nx : ∀ a h', hS.size ≤ a → h.size ≤ a → Keep hS h' ws → Rep Z a0 n0 h' G (B ++ [(a, true, .inr (newarray.typeOf aty, List.replicate k (defaultValue (newarray.typeOf aty))))]) → Goes p l e R s m args below meth c n0 Q h' (cells + 1) (slots + cap) (pc + 2) Ls (.ref a :: st)) : Goes p l e R s m args below meth c n0 Q h cells slots pc Ls (.int n :: st) := by
  intro T locs X N eT
  have hn : ¬ n < 0 := by rw [Int32.lt_iff_toInt_lt, hk]; show ¬ (k : Int) < 0; omega
  obtain ⟨T', h', cA, X', eT', E, Ar, stp⟩ := newP X A.1 A.2.2.1 w eT (g := mkF m pc Ls (.int n :: st)) rfl (hb A.2.1 hd) rfl hn (cap := cap) (by rw [toNat_lit hk]; exact hcap) hb8 hc hl
  have ho : RepO Z a0 n0 h' (h.size, true, .inr (newarray.typeOf aty, List.replicate k (defaultValue (newarray.typeOf aty)))) :=
    ⟨fun _ => Nat.le_trans Z0 K.1, _, Ar, by simp [newA, toNat_lit hk], fun v hv => by rw [(List.mem_replicate.mp hv).2]; cases aty <;> rfl, by show (List.replicate k _).length < 2 ^ 31; rw [List.length_replicate]; omega⟩
  obtain ⟨s₂, v2, L2, h1, r2⟩ := nx h.size h' K.1 (Nat.le_refl _) (K.ext E) (Rp.push E ho (Nat.le_refl _)) T' _ X' N eT'
  exact ⟨s₂, v2, L2, stp _ h1, r2⟩
theorem arr_in2 {vs : List Value} {cl : Cell} {j : Int32} {k : Nat} (e : cl.slots.toList = vs) (hk : j.toInt = k) (hl : k < vs.length) : ¬ (j < 0 ∨ cl.slots.size ≤ j.toNatClampNeg) := by
  rw [toNat_lit hk, ← Array.length_toList, e, Int32.lt_iff_toInt_lt, hk]
  show ¬ ((k : Int) < 0 ∨ _)
  omega
theorem arr_at2 {vs : List Value} {cl : Cell} {j : Int32} {k : Nat} {v : Value} (e : cl.slots.toList = vs) (hk : j.toInt = k) (hv : vs[k]? = some v) : cl.slots[j.toNatClampNeg]? = some v := by
  rw [toNat_lit hk, ← Array.getElem?_toList, e]; exact hv
theorem Goes.iaload (A : Amb bs own mL Z p s m c) {i k : Nat} {a : Addr} {fl : Bool} {j : Int32} {v : Value} {vs : List Value} (Rp : Rep Z a0 n0 h G B) (hi : B[i]? = some (a, fl, .inr (.int, vs))) (hk : j.toInt = k) (hv : vs[k]? = some v) (hd : decode bs pc = .ok (.iaload, 1)) (nx : Goes p l e R s m args below meth c n0 Q h cells slots (pc + 1) Ls (v :: st)) : Goes p l e R s m args below meth c n0 Q h cells slots pc Ls (.int j :: .ref a :: st) := by
  refine Goes.step (fun T locs X eT target q => ?_) nx
  obtain ⟨-, cl, Ar, e, -⟩ := Rp.at hi
  exact X.iaload A.1 (by rw [eT]; exact Ar.1) (State.isArrayOf_alike A.2.2.1.alike Ar.2.1) Ar.2.2 (arr_in2 e hk (List.getElem?_eq_some_iff.mp hv).1) (arr_at2 e hk hv) (g := mkF m pc Ls (.int j :: .ref a :: st)) rfl rfl (hb A.2.1 hd) target q
theorem Goes.baload (A : Amb bs own mL Z p s m c) {i k : Nat} {a : Addr} {fl : Bool} {j : Int32} {v : Value} {vs : List Value} (Rp : Rep Z a0 n0 h G B) (hi : B[i]? = some (a, fl, .inr (.byte, vs))) (hk : j.toInt = k) (hv : vs[k]? = some v) (hd : decode bs pc = .ok (.baload, 1)) (nx : Goes p l e R s m args below meth c n0 Q h cells slots (pc + 1) Ls (v :: st)) : Goes p l e R s m args below meth c n0 Q h cells slots pc Ls (.int j :: .ref a :: st) := by
  refine Goes.step (fun T locs X eT target q => ?_) nx
  obtain ⟨-, cl, Ar, e, -⟩ := Rp.at hi
  exact X.baloadBytes A.1 (by rw [eT]; exact Ar.1) (State.isArrayOf_alike A.2.2.1.alike Ar.2.1) Ar.2.2 (arr_in2 e hk (List.getElem?_eq_some_iff.mp hv).1) (arr_at2 e hk hv) (g := mkF m pc Ls (.int j :: .ref a :: st)) rfl rfl (hb A.2.1 hd) target q
theorem Goes.zaload (A : Amb bs own mL Z p s m c) {i k : Nat} {a : Addr} {fl : Bool} {j : Int32} {v : Value} {vs : List Value} (Rp : Rep Z a0 n0 h G B) (hi : B[i]? = some (a, fl, .inr (.boolean, vs))) (hk : j.toInt = k) (hv : vs[k]? = some v) (hd : decode bs pc = .ok (.baload, 1)) (nx : Goes p l e R s m args below meth c n0 Q h cells slots (pc + 1) Ls (v :: st)) : Goes p l e R s m args below meth c n0 Q h cells slots pc Ls (.int j :: .ref a :: st) := by
  refine Goes.step (fun T locs X eT target q => ?_) nx
  obtain ⟨-, cl, Ar, e, -⟩ := Rp.at hi
  exact X.baloadBooleans A.1 (by rw [eT]; exact Ar.1) (State.isArrayOf_alike A.2.2.1.alike Ar.2.1) Ar.2.2 (arr_in2 e hk (List.getElem?_eq_some_iff.mp hv).1) (arr_at2 e hk hv) (g := mkF m pc Ls (.int j :: .ref a :: st)) rfl rfl (hb A.2.1 hd) target q
theorem Goes.caload (A : Amb bs own mL Z p s m c) {i k : Nat} {a : Addr} {fl : Bool} {j : Int32} {v : Value} {vs : List Value} (Rp : Rep Z a0 n0 h G B) (hi : B[i]? = some (a, fl, .inr (.char, vs))) (hk : j.toInt = k) (hv : vs[k]? = some v) (hd : decode bs pc = .ok (.caload, 1)) (nx : Goes p l e R s m args below meth c n0 Q h cells slots (pc + 1) Ls (v :: st)) : Goes p l e R s m args below meth c n0 Q h cells slots pc Ls (.int j :: .ref a :: st) := by
  refine Goes.step (fun T locs X eT target q => ?_) nx
  obtain ⟨-, cl, Ar, e, -⟩ := Rp.at hi
  exact X.caload A.1 (by rw [eT]; exact Ar.1) (State.isArrayOf_alike A.2.2.1.alike Ar.2.1) Ar.2.2 (arr_in2 e hk (List.getElem?_eq_some_iff.mp hv).1) (arr_at2 e hk hv) (g := mkF m pc Ls (.int j :: .ref a :: st)) rfl rfl (hb A.2.1 hd) target q
theorem Goes.laload (A : Amb bs own mL Z p s m c) {i k : Nat} {a : Addr} {fl : Bool} {j : Int32} {v : Value} {vs : List Value} (Rp : Rep Z a0 n0 h G B) (hi : B[i]? = some (a, fl, .inr (.long, vs))) (hk : j.toInt = k) (hv : vs[k]? = some v) (hd : decode bs pc = .ok (.laload, 1)) (nx : Goes p l e R s m args below meth c n0 Q h cells slots (pc + 1) Ls (v :: st)) : Goes p l e R s m args below meth c n0 Q h cells slots pc Ls (.int j :: .ref a :: st) := by
  refine Goes.step (fun T locs X eT target q => ?_) nx
  obtain ⟨-, cl, Ar, e, -⟩ := Rp.at hi
  exact X.laload A.1 (by rw [eT]; exact Ar.1) (State.isArrayOf_alike A.2.2.1.alike Ar.2.1) Ar.2.2 (arr_in2 e hk (List.getElem?_eq_some_iff.mp hv).1) (arr_at2 e hk hv) (g := mkF m pc Ls (.int j :: .ref a :: st)) rfl rfl (hb A.2.1 hd) target q
theorem Goes.aaload (A : Amb bs own mL Z p s m c) {i k : Nat} {a : Addr} {fl : Bool} {j : Int32} {v : Value} {vs : List Value} {ty : FieldType} (Rp : Rep Z a0 n0 h G B) (hi : B[i]? = some (a, fl, .inr (ty, vs))) (hty : ty.isReference = true) (hk : j.toInt = k) (hv : vs[k]? = some v) (hd : decode bs pc = .ok (.aaload, 1)) (nx : Goes p l e R s m args below meth c n0 Q h cells slots (pc + 1) Ls (v :: st)) : Goes p l e R s m args below meth c n0 Q h cells slots pc Ls (.int j :: .ref a :: st) := by
  refine Goes.step (fun T locs X eT target q => ?_) nx
  obtain ⟨-, cl, Ar, e, -⟩ := Rp.at hi
  exact X.aaload A.1 (by rw [eT]; exact Ar.1) (State.isArrayOf_alike A.2.2.1.alike Ar.2.1) hty Ar.2.2 (arr_in2 e hk (List.getElem?_eq_some_iff.mp hv).1) (arr_at2 e hk hv) (g := mkF m pc Ls (.int j :: .ref a :: st)) rfl rfl (hb A.2.1 hd) target q
theorem Goes.iastore (A : Amb bs own mL Z p s m c) {i k : Nat} {a : Addr} {j : Int32} {x : Int32} {vs : List Value} (Rp : Rep Z a0 n0 h G B) (K : Keep hS h ws) (hi : B[i]? = some (a, true, .inr (.int, vs))) (ka : a ∈ ws ∨ hS.size ≤ a) (hk : j.toInt = k) (hl : k < vs.length) (hd : decode bs pc = .ok (.iastore, 1))
    (nx : ∀ h', Keep hS h' ws → Rep Z a0 n0 h' G (B.set i (a, true, .inr (.int, vs.set k (.int x)))) → Goes p l e R s m args below meth c n0 Q h' cells slots (pc + 1) Ls st) : Goes p l e R s m args below meth c n0 Q h cells slots pc Ls (.int x :: .int j :: .ref a :: st) := by
  intro T locs X N eT
  obtain ⟨-, cl, Ar, e, -⟩ := Rp.at hi
  obtain ⟨T', h', X', eT', W, stp⟩ := stI X A.1 A.2.2.1 eT Ar (arr_in2 e hk hl) (g := mkF m pc Ls (.int x :: .int j :: .ref a :: st)) rfl rfl (hb A.2.1 hd)
  rw [toNat_lit hk] at W X'
  obtain ⟨s₂, v2, L2, h1, r2⟩ := nx h' (K.wr W ka) (Rp.set hi (Keep.of_wr W) ((Rp.at hi).aset (rfl) W) rfl) T' _ X' (N.app fun y hy => by cases List.mem_singleton.mp hy; exact Rp.low hi) eT'
  exact ⟨s₂, v2, L2, stp _ h1, r2⟩
theorem Goes.bastore (A : Amb bs own mL Z p s m c) {i k : Nat} {a : Addr} {j : Int32} {x : Int32} {vs : List Value} (Rp : Rep Z a0 n0 h G B) (K : Keep hS h ws) (hi : B[i]? = some (a, true, .inr (.byte, vs))) (ka : a ∈ ws ∨ hS.size ≤ a) (hk : j.toInt = k) (hl : k < vs.length) (hd : decode bs pc = .ok (.bastore, 1))
    (nx : ∀ h', Keep hS h' ws → Rep Z a0 n0 h' G (B.set i (a, true, .inr (.byte, vs.set k (.int (nar .byte x))))) → Goes p l e R s m args below meth c n0 Q h' cells slots (pc + 1) Ls st) : Goes p l e R s m args below meth c n0 Q h cells slots pc Ls (.int x :: .int j :: .ref a :: st) := by
  intro T locs X N eT
  obtain ⟨-, cl, Ar, e, -⟩ := Rp.at hi
  obtain ⟨T', h', X', eT', W, stp⟩ := stB X A.1 A.2.2.1 eT Ar (arr_in2 e hk hl) (g := mkF m pc Ls (.int x :: .int j :: .ref a :: st)) rfl rfl (hb A.2.1 hd)
  rw [toNat_lit hk] at W X'
  obtain ⟨s₂, v2, L2, h1, r2⟩ := nx h' (K.wr W ka) (Rp.set hi (Keep.of_wr W) ((Rp.at hi).aset (fits_nar_byte x) W) rfl) T' _ X' (N.app fun y hy => by cases List.mem_singleton.mp hy; exact Rp.low hi) eT'
  exact ⟨s₂, v2, L2, stp _ h1, r2⟩
theorem Goes.zastore (A : Amb bs own mL Z p s m c) {i k : Nat} {a : Addr} {j : Int32} {x : Int32} {vs : List Value} (Rp : Rep Z a0 n0 h G B) (K : Keep hS h ws) (hi : B[i]? = some (a, true, .inr (.boolean, vs))) (ka : a ∈ ws ∨ hS.size ≤ a) (hk : j.toInt = k) (hl : k < vs.length) (hd : decode bs pc = .ok (.bastore, 1))
    (nx : ∀ h', Keep hS h' ws → Rep Z a0 n0 h' G (B.set i (a, true, .inr (.boolean, vs.set k (.int (nar .boolean x))))) → Goes p l e R s m args below meth c n0 Q h' cells slots (pc + 1) Ls st) : Goes p l e R s m args below meth c n0 Q h cells slots pc Ls (.int x :: .int j :: .ref a :: st) := by
  intro T locs X N eT
  obtain ⟨-, cl, Ar, e, -⟩ := Rp.at hi
  obtain ⟨T', h', X', eT', W, stp⟩ := stZ X A.1 A.2.2.1 eT Ar (arr_in2 e hk hl) (g := mkF m pc Ls (.int x :: .int j :: .ref a :: st)) rfl rfl (hb A.2.1 hd)
  rw [toNat_lit hk] at W X'
  obtain ⟨s₂, v2, L2, h1, r2⟩ := nx h' (K.wr W ka) (Rp.set hi (Keep.of_wr W) ((Rp.at hi).aset (fits_nar_bool x) W) rfl) T' _ X' (N.app fun y hy => by cases List.mem_singleton.mp hy; exact Rp.low hi) eT'
  exact ⟨s₂, v2, L2, stp _ h1, r2⟩
theorem Goes.lastore (A : Amb bs own mL Z p s m c) {i k : Nat} {a : Addr} {j : Int32} {x : Int64} {vs : List Value} (Rp : Rep Z a0 n0 h G B) (K : Keep hS h ws) (hi : B[i]? = some (a, true, .inr (.long, vs))) (ka : a ∈ ws ∨ hS.size ≤ a) (hk : j.toInt = k) (hl : k < vs.length) (hd : decode bs pc = .ok (.lastore, 1))
    (nx : ∀ h', Keep hS h' ws → Rep Z a0 n0 h' G (B.set i (a, true, .inr (.long, vs.set k (.long x)))) → Goes p l e R s m args below meth c n0 Q h' cells slots (pc + 1) Ls st) : Goes p l e R s m args below meth c n0 Q h cells slots pc Ls (.long x :: .int j :: .ref a :: st) := by
  intro T locs X N eT
  obtain ⟨-, cl, Ar, e, -⟩ := Rp.at hi
  obtain ⟨T', h', X', eT', W, stp⟩ := stJ X A.1 A.2.2.1 eT Ar (arr_in2 e hk hl) (g := mkF m pc Ls (.long x :: .int j :: .ref a :: st)) rfl rfl (hb A.2.1 hd)
  rw [toNat_lit hk] at W X'
  obtain ⟨s₂, v2, L2, h1, r2⟩ := nx h' (K.wr W ka) (Rp.set hi (Keep.of_wr W) ((Rp.at hi).aset (rfl) W) rfl) T' _ X' (N.app fun y hy => by cases List.mem_singleton.mp hy; exact Rp.low hi) eT'
  exact ⟨s₂, v2, L2, stp _ h1, r2⟩
theorem Goes.castore (A : Amb bs own mL Z p s m c) {i k : Nat} {a : Addr} {j : Int32} {x : Int32} {vs : List Value} (Rp : Rep Z a0 n0 h G B) (K : Keep hS h ws) (hi : B[i]? = some (a, true, .inr (.char, vs))) (ka : a ∈ ws ∨ hS.size ≤ a) (hk : j.toInt = k) (hl : k < vs.length) (hd : decode bs pc = .ok (.castore, 1))
    (nx : ∀ h', Keep hS h' ws → Rep Z a0 n0 h' G (B.set i (a, true, .inr (.char, vs.set k (.int (nar .char x))))) → Goes p l e R s m args below meth c n0 Q h' cells slots (pc + 1) Ls st) : Goes p l e R s m args below meth c n0 Q h cells slots pc Ls (.int x :: .int j :: .ref a :: st) := by
  intro T locs X N eT
  obtain ⟨-, cl, Ar, e, -⟩ := Rp.at hi
  obtain ⟨T', h', X', eT', W, stp⟩ := stC X A.1 A.2.2.1 eT Ar (arr_in2 e hk hl) (g := mkF m pc Ls (.int x :: .int j :: .ref a :: st)) rfl rfl (hb A.2.1 hd)
  rw [toNat_lit hk] at W X'
  obtain ⟨s₂, v2, L2, h1, r2⟩ := nx h' (K.wr W ka) (Rp.set hi (Keep.of_wr W) ((Rp.at hi).aset (fits_nar_char x) W) rfl) T' _ X' (N.app fun y hy => by cases List.mem_singleton.mp hy; exact Rp.low hi) eT'
  exact ⟨s₂, v2, L2, stp _ h1, r2⟩
theorem Goes.alen (A : Amb bs own mL Z p s m c) {i : Nat} {a : Addr} {fl : Bool} {vs : List Value} {ty : FieldType} {z : Int32} (Rp : Rep Z a0 n0 h G B) (hi : B[i]? = some (a, fl, .inr (ty, vs))) (hz : vs.length.toInt32 = z) (hd : decode bs pc = .ok (.arraylength, 1)) (nx : Goes p l e R s m args below meth c n0 Q h cells slots (pc + 1) Ls (.int z :: st)) : Goes p l e R s m args below meth c n0 Q h cells slots pc Ls (.ref a :: st) := by
  refine Goes.step (fun T locs X eT target q => ?_) nx
  obtain ⟨-, cl, Ar, e, -⟩ := Rp.at hi
  subst hz
  refine X.arraylength A.1 (by rw [eT]; exact Ar.1) (State.isArrayOf_alike A.2.2.1.alike Ar.2.1) (g := mkF m pc Ls (.ref a :: st)) rfl rfl (hb A.2.1 hd) target ?_
  have e3 : cl.slots.toList = vs := e
  have e2 : cl.slots.size = vs.length := by rw [← e3, Array.length_toList]
  rw [e2]
  exact q
theorem Goes.initO (A : Amb bs own mL Z p s m c) {idx : Nat} {a : Addr} {W : Nat} (w1 : (Jvm.Cond.methodLink own idx Lib.objectInit).before a0 Z = true) (w2 : (Jvm.Cond.instanceMethod Lib.objectInit).before a0 Z = true) (w3 : (Jvm.Cond.code Lib.objectInit ⟨#[0xb1]⟩ 1 none).before a0 Z = true) (hd : decode bs pc = .ok (.invokespecial idx, 3)) (hsz : Ls.size = mL) (hW : (st.map fun v => v.category).sum ≤ W) (hf : 1 ≤ R.frames) (hlo : W + 12 ≤ R.locals) (nx : Goes p l e R s m args below meth c n0 Q h cells slots (pc + 3) Ls st) : Goes p l e R s m args below meth c n0 Q h cells slots pc Ls (.ref a :: st) :=
  Goes.stay (fun T locs X eT => Jvm.RoadKit.initO (g := mkF m pc Ls (.ref a :: st)) X A.1 A.2.2.1 A.2.2.2.1 w1 w2 w3 eT rfl (by rw [A.2.2.2.2]; exact hsz) rfl (hb A.2.1 hd) hf (W := W) (by show 2 * 0 + _ ≤ _; omega) hlo) nx
theorem RepO.arv {a : Addr} {fl : Bool} {ty : FieldType} {vs : List Value} {d : Value} (F : RepO Z a0 n0 h (a, fl, .inr (ty, vs))) : ∃ k, Arv Z h a k ty vs.length.toInt32 vs d := by
  obtain ⟨-, cl, Ar, e, hf, hl⟩ := F
  have e3 : cl.slots.toList = vs := e
  have e2 : cl.slots.size = vs.length := by rw [← e3, Array.length_toList]
  have q : vs.length.toInt32.toInt = vs.length := len_toInt hl
  refine ⟨cl.cls, cl, Ar, rfl, by rw [e2, toNat_lit q], by rw [Int32.lt_iff_toInt_lt, q]; show ¬ (vs.length : Int) < 0; omega, fun i hi => ?_, fun i hi => ?_⟩
  · rw [e2] at hi
    rw [← Array.getElem?_toList, e, List.getD_eq_getElem?_getD, List.getElem?_eq_getElem hi]; rfl
  · rw [e2] at hi
    rw [List.getD_eq_getElem?_getD, List.getElem?_eq_getElem hi]
    exact hf _ (List.getElem_mem hi)
theorem RepO.of_arv {a : Addr} {fl : Bool} {ty : FieldType} {vs : List Value} {d : Value} {k : ClassId} {z : Int32} (q0 : fl = true → n0 ≤ a) (F : Arv Z h a k ty z vs d) (hl : vs.length = z.toNatClampNeg) (hb : vs.length < 2 ^ 31) : RepO Z a0 n0 h (a, fl, .inr (ty, vs)) := by
  obtain ⟨cl, Ar, -, e1, -, H, F2⟩ := F
  have e2 : cl.slots.size = vs.length := by rw [e1, hl]
  refine ⟨q0, cl, Ar, List.ext_getElem? fun i => ?_, fun v hv => ?_, hb⟩
  · show cl.slots.toList[i]? = vs[i]?
    by_cases hi : i < vs.length
    · rw [Array.getElem?_toList, H i (by rw [e2]; exact hi), List.getD_eq_getElem?_getD, List.getElem?_eq_getElem hi]; rfl
    · rw [List.getElem?_eq_none (Nat.le_of_not_lt hi), Array.getElem?_toList, Array.getElem?_eq_none (by rw [e2]; exact Nat.le_of_not_lt hi)]
  · obtain ⟨i, hi⟩ := List.mem_iff_getElem?.mp hv
    obtain ⟨hl2, rfl⟩ := List.getElem?_eq_some_iff.mp hi
    have := F2 i (by rw [e2]; exact hl2)
    rw [List.getD_eq_getElem?_getD, hi] at this
    exact this
end Own3
theorem b1_0_1 : decL method_2_code [(.iload_n 0, 1)] 0 = true := by decide +kernel
theorem d1_1 : decode method_2_code 1 = .ok (.ifCond .ne 7, 3) := by decide +kernel
theorem d1_4 : decode method_2_code 4 = .ok (.getstatic 7, 3) := by decide +kernel
theorem d1_7 : decode method_2_code 7 = .ok (.areturn, 1) := by decide +kernel
theorem ef1_i (x0 : Int32) (m : MethodId) : entryFrame m #[(.int x0)] 1 = mkF m 0 #[.val (.int x0)] [] := by first | (simp [entryFrame, mkF, argsToLocals, Value.category]; done) | rfl
theorem pn_law : plainName x.cls = true := by first | (simp [plainName, overriddenIn]; done) | decide +kernel
theorem b1_8_2 : decL method_2_code [(.iload_n 0, 1), (.iconst 1, 1)] 8 = true := by decide +kernel
theorem d1_10 : decode method_2_code 10 = .ok (.if_icmp .ne 7, 3) := by decide +kernel
theorem d1_13 : decode method_2_code 13 = .ok (.getstatic 13, 3) := by decide +kernel
theorem d1_16 : decode method_2_code 16 = .ok (.areturn, 1) := by decide +kernel
theorem b1_17_2 : decL method_2_code [(.iload_n 0, 1), (.iconst 2, 1)] 17 = true := by decide +kernel
theorem d1_19 : decode method_2_code 19 = .ok (.if_icmp .ne 7, 3) := by decide +kernel
theorem d1_22 : decode method_2_code 22 = .ok (.getstatic 16, 3) := by decide +kernel
theorem d1_25 : decode method_2_code 25 = .ok (.areturn, 1) := by decide +kernel
theorem b1_26_2 : decL method_2_code [(.iload_n 0, 1), (.iconst 3, 1)] 26 = true := by decide +kernel
theorem d1_28 : decode method_2_code 28 = .ok (.if_icmp .ne 7, 3) := by decide +kernel
theorem d1_31 : decode method_2_code 31 = .ok (.getstatic 19, 3) := by decide +kernel
theorem d1_34 : decode method_2_code 34 = .ok (.areturn, 1) := by decide +kernel
theorem b1_35_2 : decL method_2_code [(.iload_n 0, 1), (.iconst 4, 1)] 35 = true := by decide +kernel
theorem d1_37 : decode method_2_code 37 = .ok (.if_icmp .ne 7, 3) := by decide +kernel
theorem d1_40 : decode method_2_code 40 = .ok (.getstatic 22, 3) := by decide +kernel
theorem d1_43 : decode method_2_code 43 = .ok (.areturn, 1) := by decide +kernel
theorem b1_44_2 : decL method_2_code [(.iload_n 0, 1), (.iconst 5, 1)] 44 = true := by decide +kernel
theorem d1_46 : decode method_2_code 46 = .ok (.if_icmp .ne 7, 3) := by decide +kernel
theorem d1_49 : decode method_2_code 49 = .ok (.getstatic 25, 3) := by decide +kernel
theorem d1_52 : decode method_2_code 52 = .ok (.areturn, 1) := by decide +kernel
theorem b1_53_2 : decL method_2_code [(.iload_n 0, 1), (.bipush 6, 2)] 53 = true := by decide +kernel
theorem d1_56 : decode method_2_code 56 = .ok (.if_icmp .ne 7, 3) := by decide +kernel
theorem d1_59 : decode method_2_code 59 = .ok (.getstatic 28, 3) := by decide +kernel
theorem d1_62 : decode method_2_code 62 = .ok (.areturn, 1) := by decide +kernel
theorem b1_63_2 : decL method_2_code [(.iload_n 0, 1), (.bipush 7, 2)] 63 = true := by decide +kernel
theorem d1_66 : decode method_2_code 66 = .ok (.if_icmp .ne 7, 3) := by decide +kernel
theorem d1_69 : decode method_2_code 69 = .ok (.getstatic 31, 3) := by decide +kernel
theorem d1_72 : decode method_2_code 72 = .ok (.areturn, 1) := by decide +kernel
theorem b1_73_2 : decL method_2_code [(.iload_n 0, 1), (.bipush 8, 2)] 73 = true := by decide +kernel
theorem d1_76 : decode method_2_code 76 = .ok (.if_icmp .ne 7, 3) := by decide +kernel
theorem d1_79 : decode method_2_code 79 = .ok (.getstatic 34, 3) := by decide +kernel
theorem d1_82 : decode method_2_code 82 = .ok (.areturn, 1) := by decide +kernel
theorem b1_83_2 : decL method_2_code [(.iload_n 0, 1), (.bipush 9, 2)] 83 = true := by decide +kernel
theorem d1_86 : decode method_2_code 86 = .ok (.if_icmp .ne 7, 3) := by decide +kernel
theorem d1_89 : decode method_2_code 89 = .ok (.getstatic 37, 3) := by decide +kernel
theorem d1_92 : decode method_2_code 92 = .ok (.areturn, 1) := by decide +kernel
theorem b1_93_2 : decL method_2_code [(.iload_n 0, 1), (.bipush 10, 2)] 93 = true := by decide +kernel
theorem d1_96 : decode method_2_code 96 = .ok (.if_icmp .ne 7, 3) := by decide +kernel
theorem d1_99 : decode method_2_code 99 = .ok (.getstatic 40, 3) := by decide +kernel
theorem d1_102 : decode method_2_code 102 = .ok (.areturn, 1) := by decide +kernel
theorem b1_103_2 : decL method_2_code [(.iload_n 0, 1), (.bipush 11, 2)] 103 = true := by decide +kernel
theorem d1_106 : decode method_2_code 106 = .ok (.if_icmp .ne 7, 3) := by decide +kernel
theorem d1_109 : decode method_2_code 109 = .ok (.getstatic 43, 3) := by decide +kernel
theorem d1_112 : decode method_2_code 112 = .ok (.areturn, 1) := by decide +kernel
theorem b1_113_2 : decL method_2_code [(.iload_n 0, 1), (.bipush 12, 2)] 113 = true := by decide +kernel
theorem d1_116 : decode method_2_code 116 = .ok (.if_icmp .ne 7, 3) := by decide +kernel
theorem d1_119 : decode method_2_code 119 = .ok (.getstatic 46, 3) := by decide +kernel
theorem d1_122 : decode method_2_code 122 = .ok (.areturn, 1) := by decide +kernel
theorem d1_123 : decode method_2_code 123 = .ok (.getstatic 49, 3) := by decide +kernel
theorem d1_126 : decode method_2_code 126 = .ok (.areturn, 1) := by decide +kernel
theorem b2_0_1 : decL prog_66_method_4_code [(.aload_n 0, 1)] 0 = true := by decide +kernel
theorem d2_1 : decode prog_66_method_4_code 1 = .ok (.getstatic 10, 3) := by decide +kernel
theorem d2_4 : decode prog_66_method_4_code 4 = .ok (.if_acmp .eq 21, 3) := by decide +kernel
theorem b2_25_1 : decL prog_66_method_4_code [(.iconst 0, 1)] 25 = true := by decide +kernel
theorem d2_26 : decode prog_66_method_4_code 26 = .ok (.ireturn, 1) := by decide +kernel
theorem b2_7_1 : decL prog_66_method_4_code [(.aload_n 0, 1)] 7 = true := by decide +kernel
theorem d2_8 : decode prog_66_method_4_code 8 = .ok (.getstatic 25, 3) := by decide +kernel
theorem d2_11 : decode prog_66_method_4_code 11 = .ok (.if_acmp .eq 14, 3) := by decide +kernel
theorem b2_14_1 : decL prog_66_method_4_code [(.aload_n 0, 1)] 14 = true := by decide +kernel
theorem d2_15 : decode prog_66_method_4_code 15 = .ok (.getstatic 28, 3) := by decide +kernel
theorem d2_18 : decode prog_66_method_4_code 18 = .ok (.if_acmp .eq 7, 3) := by decide +kernel
theorem b2_21_1 : decL prog_66_method_4_code [(.iconst 1, 1)] 21 = true := by decide +kernel
theorem d2_22 : decode prog_66_method_4_code 22 = .ok (.goto 4, 3) := by decide +kernel
theorem ef2_r (x0 : Addr) (m : MethodId) : entryFrame m #[(.ref x0)] 1 = mkF m 0 #[.val (.ref x0)] [] := by first | (simp [entryFrame, mkF, argsToLocals, Value.category]; done) | rfl
theorem pn_cat : plainName site_81.cls = true := by first | (simp [plainName, overriddenIn]; done) | decide +kernel
theorem b0_0_1 : decL code [(.iload_n 0, 1)] 0 = true := by decide +kernel
theorem b0_3_2 : decL code [(.iand, 1), (.bipush 14, 2)] 3 = true := by decide +kernel
theorem b0_7_2 : decL code [(.istore_n 1, 1), (.bipush 14, 2)] 7 = true := by decide +kernel
theorem b0_12_3 : decL code [(.dup, 1), (.iconst 0, 1), (.iconst 1, 1)] 12 = true := by decide +kernel
theorem b0_16_3 : decL code [(.dup, 1), (.iconst 1, 1), (.iconst 1, 1)] 16 = true := by decide +kernel
theorem b0_20_3 : decL code [(.dup, 1), (.iconst 2, 1), (.iconst 0, 1)] 20 = true := by decide +kernel
theorem b0_24_3 : decL code [(.dup, 1), (.iconst 3, 1), (.iconst 1, 1)] 24 = true := by decide +kernel
theorem b0_28_3 : decL code [(.dup, 1), (.iconst 4, 1), (.iconst 1, 1)] 28 = true := by decide +kernel
theorem b0_32_3 : decL code [(.dup, 1), (.iconst 5, 1), (.iconst 1, 1)] 32 = true := by decide +kernel
theorem b0_36_3 : decL code [(.dup, 1), (.bipush 6, 2), (.iconst 1, 1)] 36 = true := by decide +kernel
theorem b0_41_3 : decL code [(.dup, 1), (.bipush 7, 2), (.iconst 0, 1)] 41 = true := by decide +kernel
theorem b0_46_3 : decL code [(.dup, 1), (.bipush 8, 2), (.iconst 0, 1)] 46 = true := by decide +kernel
theorem b0_51_3 : decL code [(.dup, 1), (.bipush 9, 2), (.iconst 1, 1)] 51 = true := by decide +kernel
theorem b0_56_3 : decL code [(.dup, 1), (.bipush 10, 2), (.iconst 1, 1)] 56 = true := by decide +kernel
theorem b0_61_3 : decL code [(.dup, 1), (.bipush 11, 2), (.iconst 1, 1)] 61 = true := by decide +kernel
theorem b0_66_3 : decL code [(.dup, 1), (.bipush 12, 2), (.iconst 1, 1)] 66 = true := by decide +kernel
theorem b0_71_3 : decL code [(.dup, 1), (.bipush 13, 2), (.iconst 1, 1)] 71 = true := by decide +kernel
theorem b0_76_2 : decL code [(.astore_n 2, 1), (.iload_n 1, 1)] 76 = true := by decide +kernel
theorem pd_412537 : parseMethodDescriptor site_78.desc = some ⟨[.int], some (.object site_81.cls)⟩ := by decide +kernel
theorem pd_248338 : parseMethodDescriptor "()Z" = some ⟨[], some .boolean⟩ := by decide +kernel
theorem b0_84_2 : decL code [(.aload_n 2, 1), (.iload_n 1, 1)] 84 = true := by decide +kernel
theorem b0_90_1 : decL code [(.iconst 1, 1)] 90 = true := by decide +kernel
theorem ef0_i (x0 : Int32) (m : MethodId) : entryFrame m #[(.int x0)] maxLocals = mkF m 0 #[.val (.int x0), .unset, .unset] [] := by first | (simp [entryFrame, mkF, argsToLocals, Value.category, maxLocals]; done) | rfl
theorem own_rem (x n : Int32) (hn : 0 < n.toInt) : 0 ≤ ((x &&& 2147483647) % n).toInt ∧ ((x &&& 2147483647) % n).toInt < n.toInt := by
  have q := c_and x 2147483647 (by decide)
  have r := (c_iremV (x &&& 2147483647) n).1 q.1 hn
  exact ⟨r.1, r.2.1⟩

theorem own_c14 {v k : Int32} (hk : k.toInt = 14) (q : 0 ≤ v.toInt ∧ v.toInt < k.toInt) : v = 0 ∨ v = 1 ∨ v = 2 ∨ v = 3 ∨ v = 4 ∨ v = 5 ∨ v = 6 ∨ v = 7 ∨ v = 8 ∨ v = 9 ∨ v = 10 ∨ v = 11 ∨ v = 12 ∨ v = 13 := by
  rw [hk] at q
  rcases (by omega : v.toInt = 0 ∨ v.toInt = 1 ∨ v.toInt = 2 ∨ v.toInt = 3 ∨ v.toInt = 4 ∨ v.toInt = 5 ∨ v.toInt = 6 ∨ v.toInt = 7 ∨ v.toInt = 8 ∨ v.toInt = 9 ∨ v.toInt = 10 ∨ v.toInt = 11 ∨ v.toInt = 12 ∨ v.toInt = 13) with r | r | r | r | r | r | r | r | r | r | r | r | r | r
  · exact (Or.inl (Int32.toInt_inj.mp (r.trans (by decide))))
  · exact (Or.inr (Or.inl (Int32.toInt_inj.mp (r.trans (by decide)))))
  · exact (Or.inr (Or.inr (Or.inl (Int32.toInt_inj.mp (r.trans (by decide))))))
  · exact (Or.inr (Or.inr (Or.inr (Or.inl (Int32.toInt_inj.mp (r.trans (by decide)))))))
  · exact (Or.inr (Or.inr (Or.inr (Or.inr (Or.inl (Int32.toInt_inj.mp (r.trans (by decide))))))))
  · exact (Or.inr (Or.inr (Or.inr (Or.inr (Or.inr (Or.inl (Int32.toInt_inj.mp (r.trans (by decide)))))))))
  · exact (Or.inr (Or.inr (Or.inr (Or.inr (Or.inr (Or.inr (Or.inl (Int32.toInt_inj.mp (r.trans (by decide))))))))))
  · exact (Or.inr (Or.inr (Or.inr (Or.inr (Or.inr (Or.inr (Or.inr (Or.inl (Int32.toInt_inj.mp (r.trans (by decide)))))))))))
  · exact (Or.inr (Or.inr (Or.inr (Or.inr (Or.inr (Or.inr (Or.inr (Or.inr (Or.inl (Int32.toInt_inj.mp (r.trans (by decide))))))))))))
  · exact (Or.inr (Or.inr (Or.inr (Or.inr (Or.inr (Or.inr (Or.inr (Or.inr (Or.inr (Or.inl (Int32.toInt_inj.mp (r.trans (by decide)))))))))))))
  · exact (Or.inr (Or.inr (Or.inr (Or.inr (Or.inr (Or.inr (Or.inr (Or.inr (Or.inr (Or.inr (Or.inl (Int32.toInt_inj.mp (r.trans (by decide))))))))))))))
  · exact (Or.inr (Or.inr (Or.inr (Or.inr (Or.inr (Or.inr (Or.inr (Or.inr (Or.inr (Or.inr (Or.inr (Or.inl (Int32.toInt_inj.mp (r.trans (by decide)))))))))))))))
  · exact (Or.inr (Or.inr (Or.inr (Or.inr (Or.inr (Or.inr (Or.inr (Or.inr (Or.inr (Or.inr (Or.inr (Or.inr (Or.inl (Int32.toInt_inj.mp (r.trans (by decide))))))))))))))))
  · exact (Or.inr (Or.inr (Or.inr (Or.inr (Or.inr (Or.inr (Or.inr (Or.inr (Or.inr (Or.inr (Or.inr (Or.inr (Or.inr (Int32.toInt_inj.mp (r.trans (by decide))))))))))))))))

set_option maxRecDepth 65536 in
set_option maxHeartbeats 40000000 in
theorem kp0 (l : Launch) (Z : State) (n0 : Nat) (a0 : Array Value) (hw : ∀ d ∈ tables_1, d.before a0 Z = true) (h : Heap) (a_ABSTRACT : Addr) (S_ABSTRACT : Sta Z h site_81.cls "ABSTRACT" own_dC (.ref a_ABSTRACT)) : Con l Z n0 (⟨x.cls, "pick", site_78.desc⟩ : MethodName) method_2_code 1 (some (.object site_81.cls)) ({ frames := 0, cells := 0, slots := 0, locals := 0 } : Room) #[(.int (0 : Int32))] h (fun v h' => v = some (.ref a_ABSTRACT) ∧ h = h') := by
  refine Con.mk (Ls := #[.val (.int (0 : Int32))]) pn_law (ef1_i (0 : Int32)) ?_
  intro p e s m below meth c A hret hlk hnm
  refine Goes.blk A _ b1_0_1 (pc' := 1) (Ls' := #[.val (.int (0 : Int32))]) (st' := [(.int (0 : Int32))]) rfl ?_
  refine Goes.if1 A d1_1 (by decide) (pc' := 8) (by decide) (fun hc => absurd hc (cP_f (by decide))) (fun hc1 => ?_)
  refine Goes.getS A (hw _ (List.mem_of_getElem? (i := 6) rfl)) Via.refl S_ABSTRACT d1_4 ?_
  exact Goes.retA A hret rfl rfl rfl hlk d1_7 (by decide) (by decide) ⟨rfl, rfl⟩
set_option maxRecDepth 65536 in
set_option maxHeartbeats 40000000 in
theorem kp1 (l : Launch) (Z : State) (n0 : Nat) (a0 : Array Value) (hw : ∀ d ∈ tables_1, d.before a0 Z = true) (h : Heap) (a_BUS : Addr) (S_BUS : Sta Z h site_81.cls "BUS" own_dC (.ref a_BUS)) : Con l Z n0 (⟨x.cls, "pick", site_78.desc⟩ : MethodName) method_2_code 1 (some (.object site_81.cls)) ({ frames := 0, cells := 0, slots := 0, locals := 0 } : Room) #[(.int (1 : Int32))] h (fun v h' => v = some (.ref a_BUS) ∧ h = h') := by
  refine Con.mk (Ls := #[.val (.int (1 : Int32))]) pn_law (ef1_i (1 : Int32)) ?_
  intro p e s m below meth c A hret hlk hnm
  refine Goes.blk A _ b1_0_1 (pc' := 1) (Ls' := #[.val (.int (1 : Int32))]) (st' := [(.int (1 : Int32))]) rfl ?_
  refine Goes.if1 A d1_1 (by decide) (pc' := 8) (by decide) (fun hc1 => ?_) (fun hc => absurd (cP_t (by decide)) hc)
  refine Goes.blk A _ b1_8_2 (pc' := 10) (Ls' := #[.val (.int (1 : Int32))]) (st' := [(.int (1 : Int32)), (.int (1 : Int32))]) rfl ?_
  refine Goes.if2 A d1_10 (by decide) (pc' := 17) (by decide) (fun hc => absurd hc (cP_f (by decide))) (fun hc2 => ?_)
  refine Goes.getS A (hw _ (List.mem_of_getElem? (i := 35) rfl)) Via.refl S_BUS d1_13 ?_
  exact Goes.retA A hret rfl rfl rfl hlk d1_16 (by decide) (by decide) ⟨rfl, rfl⟩
set_option maxRecDepth 65536 in
set_option maxHeartbeats 40000000 in
theorem kp2 (l : Launch) (Z : State) (n0 : Nat) (a0 : Array Value) (hw : ∀ d ∈ tables_1, d.before a0 Z = true) (h : Heap) (a_DATA : Addr) (S_DATA : Sta Z h site_81.cls "DATA" own_dC (.ref a_DATA)) : Con l Z n0 (⟨x.cls, "pick", site_78.desc⟩ : MethodName) method_2_code 1 (some (.object site_81.cls)) ({ frames := 0, cells := 0, slots := 0, locals := 0 } : Room) #[(.int (2 : Int32))] h (fun v h' => v = some (.ref a_DATA) ∧ h = h') := by
  refine Con.mk (Ls := #[.val (.int (2 : Int32))]) pn_law (ef1_i (2 : Int32)) ?_
  intro p e s m below meth c A hret hlk hnm
  refine Goes.blk A _ b1_0_1 (pc' := 1) (Ls' := #[.val (.int (2 : Int32))]) (st' := [(.int (2 : Int32))]) rfl ?_
  refine Goes.if1 A d1_1 (by decide) (pc' := 8) (by decide) (fun hc1 => ?_) (fun hc => absurd (cP_t (by decide)) hc)
  refine Goes.blk A _ b1_8_2 (pc' := 10) (Ls' := #[.val (.int (2 : Int32))]) (st' := [(.int (1 : Int32)), (.int (2 : Int32))]) rfl ?_
  refine Goes.if2 A d1_10 (by decide) (pc' := 17) (by decide) (fun hc2 => ?_) (fun hc => absurd (cP_t (by decide)) hc)
  refine Goes.blk A _ b1_17_2 (pc' := 19) (Ls' := #[.val (.int (2 : Int32))]) (st' := [(.int (2 : Int32)), (.int (2 : Int32))]) rfl ?_
  refine Goes.if2 A d1_19 (by decide) (pc' := 26) (by decide) (fun hc => absurd hc (cP_f (by decide))) (fun hc3 => ?_)
  refine Goes.getS A (hw _ (List.mem_of_getElem? (i := 29) rfl)) Via.refl S_DATA d1_22 ?_
  exact Goes.retA A hret rfl rfl rfl hlk d1_25 (by decide) (by decide) ⟨rfl, rfl⟩
set_option maxRecDepth 65536 in
set_option maxHeartbeats 40000000 in
theorem kp3 (l : Launch) (Z : State) (n0 : Nat) (a0 : Array Value) (hw : ∀ d ∈ tables_1, d.before a0 Z = true) (h : Heap) (a_DEVICE : Addr) (S_DEVICE : Sta Z h site_81.cls "DEVICE" own_dC (.ref a_DEVICE)) : Con l Z n0 (⟨x.cls, "pick", site_78.desc⟩ : MethodName) method_2_code 1 (some (.object site_81.cls)) ({ frames := 0, cells := 0, slots := 0, locals := 0 } : Room) #[(.int (3 : Int32))] h (fun v h' => v = some (.ref a_DEVICE) ∧ h = h') := by
  refine Con.mk (Ls := #[.val (.int (3 : Int32))]) pn_law (ef1_i (3 : Int32)) ?_
  intro p e s m below meth c A hret hlk hnm
  refine Goes.blk A _ b1_0_1 (pc' := 1) (Ls' := #[.val (.int (3 : Int32))]) (st' := [(.int (3 : Int32))]) rfl ?_
  refine Goes.if1 A d1_1 (by decide) (pc' := 8) (by decide) (fun hc1 => ?_) (fun hc => absurd (cP_t (by decide)) hc)
  refine Goes.blk A _ b1_8_2 (pc' := 10) (Ls' := #[.val (.int (3 : Int32))]) (st' := [(.int (1 : Int32)), (.int (3 : Int32))]) rfl ?_
  refine Goes.if2 A d1_10 (by decide) (pc' := 17) (by decide) (fun hc2 => ?_) (fun hc => absurd (cP_t (by decide)) hc)
  refine Goes.blk A _ b1_17_2 (pc' := 19) (Ls' := #[.val (.int (3 : Int32))]) (st' := [(.int (2 : Int32)), (.int (3 : Int32))]) rfl ?_
  refine Goes.if2 A d1_19 (by decide) (pc' := 26) (by decide) (fun hc3 => ?_) (fun hc => absurd (cP_t (by decide)) hc)
  refine Goes.blk A _ b1_26_2 (pc' := 28) (Ls' := #[.val (.int (3 : Int32))]) (st' := [(.int (3 : Int32)), (.int (3 : Int32))]) rfl ?_
  refine Goes.if2 A d1_28 (by decide) (pc' := 35) (by decide) (fun hc => absurd hc (cP_f (by decide))) (fun hc4 => ?_)
  refine Goes.getS A (hw _ (List.mem_of_getElem? (i := 20) rfl)) Via.refl S_DEVICE d1_31 ?_
  exact Goes.retA A hret rfl rfl rfl hlk d1_34 (by decide) (by decide) ⟨rfl, rfl⟩
set_option maxRecDepth 65536 in
set_option maxHeartbeats 40000000 in
theorem kp4 (l : Launch) (Z : State) (n0 : Nat) (a0 : Array Value) (hw : ∀ d ∈ tables_1, d.before a0 Z = true) (h : Heap) (a_MEMORY : Addr) (S_MEMORY : Sta Z h site_81.cls "MEMORY" own_dC (.ref a_MEMORY)) : Con l Z n0 (⟨x.cls, "pick", site_78.desc⟩ : MethodName) method_2_code 1 (some (.object site_81.cls)) ({ frames := 0, cells := 0, slots := 0, locals := 0 } : Room) #[(.int (4 : Int32))] h (fun v h' => v = some (.ref a_MEMORY) ∧ h = h') := by
  refine Con.mk (Ls := #[.val (.int (4 : Int32))]) pn_law (ef1_i (4 : Int32)) ?_
  intro p e s m below meth c A hret hlk hnm
  refine Goes.blk A _ b1_0_1 (pc' := 1) (Ls' := #[.val (.int (4 : Int32))]) (st' := [(.int (4 : Int32))]) rfl ?_
  refine Goes.if1 A d1_1 (by decide) (pc' := 8) (by decide) (fun hc1 => ?_) (fun hc => absurd (cP_t (by decide)) hc)
  refine Goes.blk A _ b1_8_2 (pc' := 10) (Ls' := #[.val (.int (4 : Int32))]) (st' := [(.int (1 : Int32)), (.int (4 : Int32))]) rfl ?_
  refine Goes.if2 A d1_10 (by decide) (pc' := 17) (by decide) (fun hc2 => ?_) (fun hc => absurd (cP_t (by decide)) hc)
  refine Goes.blk A _ b1_17_2 (pc' := 19) (Ls' := #[.val (.int (4 : Int32))]) (st' := [(.int (2 : Int32)), (.int (4 : Int32))]) rfl ?_
  refine Goes.if2 A d1_19 (by decide) (pc' := 26) (by decide) (fun hc3 => ?_) (fun hc => absurd (cP_t (by decide)) hc)
  refine Goes.blk A _ b1_26_2 (pc' := 28) (Ls' := #[.val (.int (4 : Int32))]) (st' := [(.int (3 : Int32)), (.int (4 : Int32))]) rfl ?_
  refine Goes.if2 A d1_28 (by decide) (pc' := 35) (by decide) (fun hc4 => ?_) (fun hc => absurd (cP_t (by decide)) hc)
  refine Goes.blk A _ b1_35_2 (pc' := 37) (Ls' := #[.val (.int (4 : Int32))]) (st' := [(.int (4 : Int32)), (.int (4 : Int32))]) rfl ?_
  refine Goes.if2 A d1_37 (by decide) (pc' := 44) (by decide) (fun hc => absurd hc (cP_f (by decide))) (fun hc5 => ?_)
  refine Goes.getS A (hw _ (List.mem_of_getElem? (i := 26) rfl)) Via.refl S_MEMORY d1_40 ?_
  exact Goes.retA A hret rfl rfl rfl hlk d1_43 (by decide) (by decide) ⟨rfl, rfl⟩
set_option maxRecDepth 65536 in
set_option maxHeartbeats 40000000 in
theorem kp5 (l : Launch) (Z : State) (n0 : Nat) (a0 : Array Value) (hw : ∀ d ∈ tables_1, d.before a0 Z = true) (h : Heap) (a_PROCESS : Addr) (S_PROCESS : Sta Z h site_81.cls "PROCESS" own_dC (.ref a_PROCESS)) : Con l Z n0 (⟨x.cls, "pick", site_78.desc⟩ : MethodName) method_2_code 1 (some (.object site_81.cls)) ({ frames := 0, cells := 0, slots := 0, locals := 0 } : Room) #[(.int (5 : Int32))] h (fun v h' => v = some (.ref a_PROCESS) ∧ h = h') := by
  refine Con.mk (Ls := #[.val (.int (5 : Int32))]) pn_law (ef1_i (5 : Int32)) ?_
  intro p e s m below meth c A hret hlk hnm
  refine Goes.blk A _ b1_0_1 (pc' := 1) (Ls' := #[.val (.int (5 : Int32))]) (st' := [(.int (5 : Int32))]) rfl ?_
  refine Goes.if1 A d1_1 (by decide) (pc' := 8) (by decide) (fun hc1 => ?_) (fun hc => absurd (cP_t (by decide)) hc)
  refine Goes.blk A _ b1_8_2 (pc' := 10) (Ls' := #[.val (.int (5 : Int32))]) (st' := [(.int (1 : Int32)), (.int (5 : Int32))]) rfl ?_
  refine Goes.if2 A d1_10 (by decide) (pc' := 17) (by decide) (fun hc2 => ?_) (fun hc => absurd (cP_t (by decide)) hc)
  refine Goes.blk A _ b1_17_2 (pc' := 19) (Ls' := #[.val (.int (5 : Int32))]) (st' := [(.int (2 : Int32)), (.int (5 : Int32))]) rfl ?_
  refine Goes.if2 A d1_19 (by decide) (pc' := 26) (by decide) (fun hc3 => ?_) (fun hc => absurd (cP_t (by decide)) hc)
  refine Goes.blk A _ b1_26_2 (pc' := 28) (Ls' := #[.val (.int (5 : Int32))]) (st' := [(.int (3 : Int32)), (.int (5 : Int32))]) rfl ?_
  refine Goes.if2 A d1_28 (by decide) (pc' := 35) (by decide) (fun hc4 => ?_) (fun hc => absurd (cP_t (by decide)) hc)
  refine Goes.blk A _ b1_35_2 (pc' := 37) (Ls' := #[.val (.int (5 : Int32))]) (st' := [(.int (4 : Int32)), (.int (5 : Int32))]) rfl ?_
  refine Goes.if2 A d1_37 (by decide) (pc' := 44) (by decide) (fun hc5 => ?_) (fun hc => absurd (cP_t (by decide)) hc)
  refine Goes.blk A _ b1_44_2 (pc' := 46) (Ls' := #[.val (.int (5 : Int32))]) (st' := [(.int (5 : Int32)), (.int (5 : Int32))]) rfl ?_
  refine Goes.if2 A d1_46 (by decide) (pc' := 53) (by decide) (fun hc => absurd hc (cP_f (by decide))) (fun hc6 => ?_)
  refine Goes.getS A (hw _ (List.mem_of_getElem? (i := 39) rfl)) Via.refl S_PROCESS d1_49 ?_
  exact Goes.retA A hret rfl rfl rfl hlk d1_52 (by decide) (by decide) ⟨rfl, rfl⟩
set_option maxRecDepth 65536 in
set_option maxHeartbeats 40000000 in
theorem kp6 (l : Launch) (Z : State) (n0 : Nat) (a0 : Array Value) (hw : ∀ d ∈ tables_1, d.before a0 Z = true) (h : Heap) (a_PROCESSOR : Addr) (S_PROCESSOR : Sta Z h site_81.cls "PROCESSOR" own_dC (.ref a_PROCESSOR)) : Con l Z n0 (⟨x.cls, "pick", site_78.desc⟩ : MethodName) method_2_code 1 (some (.object site_81.cls)) ({ frames := 0, cells := 0, slots := 0, locals := 0 } : Room) #[(.int (6 : Int32))] h (fun v h' => v = some (.ref a_PROCESSOR) ∧ h = h') := by
  refine Con.mk (Ls := #[.val (.int (6 : Int32))]) pn_law (ef1_i (6 : Int32)) ?_
  intro p e s m below meth c A hret hlk hnm
  refine Goes.blk A _ b1_0_1 (pc' := 1) (Ls' := #[.val (.int (6 : Int32))]) (st' := [(.int (6 : Int32))]) rfl ?_
  refine Goes.if1 A d1_1 (by decide) (pc' := 8) (by decide) (fun hc1 => ?_) (fun hc => absurd (cP_t (by decide)) hc)
  refine Goes.blk A _ b1_8_2 (pc' := 10) (Ls' := #[.val (.int (6 : Int32))]) (st' := [(.int (1 : Int32)), (.int (6 : Int32))]) rfl ?_
  refine Goes.if2 A d1_10 (by decide) (pc' := 17) (by decide) (fun hc2 => ?_) (fun hc => absurd (cP_t (by decide)) hc)
  refine Goes.blk A _ b1_17_2 (pc' := 19) (Ls' := #[.val (.int (6 : Int32))]) (st' := [(.int (2 : Int32)), (.int (6 : Int32))]) rfl ?_
  refine Goes.if2 A d1_19 (by decide) (pc' := 26) (by decide) (fun hc3 => ?_) (fun hc => absurd (cP_t (by decide)) hc)
  refine Goes.blk A _ b1_26_2 (pc' := 28) (Ls' := #[.val (.int (6 : Int32))]) (st' := [(.int (3 : Int32)), (.int (6 : Int32))]) rfl ?_
  refine Goes.if2 A d1_28 (by decide) (pc' := 35) (by decide) (fun hc4 => ?_) (fun hc => absurd (cP_t (by decide)) hc)
  refine Goes.blk A _ b1_35_2 (pc' := 37) (Ls' := #[.val (.int (6 : Int32))]) (st' := [(.int (4 : Int32)), (.int (6 : Int32))]) rfl ?_
  refine Goes.if2 A d1_37 (by decide) (pc' := 44) (by decide) (fun hc5 => ?_) (fun hc => absurd (cP_t (by decide)) hc)
  refine Goes.blk A _ b1_44_2 (pc' := 46) (Ls' := #[.val (.int (6 : Int32))]) (st' := [(.int (5 : Int32)), (.int (6 : Int32))]) rfl ?_
  refine Goes.if2 A d1_46 (by decide) (pc' := 53) (by decide) (fun hc6 => ?_) (fun hc => absurd (cP_t (by decide)) hc)
  refine Goes.blk A _ b1_53_2 (pc' := 56) (Ls' := #[.val (.int (6 : Int32))]) (st' := [(.int (6 : Int32)), (.int (6 : Int32))]) rfl ?_
  refine Goes.if2 A d1_56 (by decide) (pc' := 63) (by decide) (fun hc => absurd hc (cP_f (by decide))) (fun hc7 => ?_)
  refine Goes.getS A (hw _ (List.mem_of_getElem? (i := 41) rfl)) Via.refl S_PROCESSOR d1_59 ?_
  exact Goes.retA A hret rfl rfl rfl hlk d1_62 (by decide) (by decide) ⟨rfl, rfl⟩
set_option maxRecDepth 65536 in
set_option maxHeartbeats 40000000 in
theorem kp7 (l : Launch) (Z : State) (n0 : Nat) (a0 : Array Value) (hw : ∀ d ∈ tables_1, d.before a0 Z = true) (h : Heap) (a_SUBPROGRAM : Addr) (S_SUBPROGRAM : Sta Z h site_81.cls "SUBPROGRAM" own_dC (.ref a_SUBPROGRAM)) : Con l Z n0 (⟨x.cls, "pick", site_78.desc⟩ : MethodName) method_2_code 1 (some (.object site_81.cls)) ({ frames := 0, cells := 0, slots := 0, locals := 0 } : Room) #[(.int (7 : Int32))] h (fun v h' => v = some (.ref a_SUBPROGRAM) ∧ h = h') := by
  refine Con.mk (Ls := #[.val (.int (7 : Int32))]) pn_law (ef1_i (7 : Int32)) ?_
  intro p e s m below meth c A hret hlk hnm
  refine Goes.blk A _ b1_0_1 (pc' := 1) (Ls' := #[.val (.int (7 : Int32))]) (st' := [(.int (7 : Int32))]) rfl ?_
  refine Goes.if1 A d1_1 (by decide) (pc' := 8) (by decide) (fun hc1 => ?_) (fun hc => absurd (cP_t (by decide)) hc)
  refine Goes.blk A _ b1_8_2 (pc' := 10) (Ls' := #[.val (.int (7 : Int32))]) (st' := [(.int (1 : Int32)), (.int (7 : Int32))]) rfl ?_
  refine Goes.if2 A d1_10 (by decide) (pc' := 17) (by decide) (fun hc2 => ?_) (fun hc => absurd (cP_t (by decide)) hc)
  refine Goes.blk A _ b1_17_2 (pc' := 19) (Ls' := #[.val (.int (7 : Int32))]) (st' := [(.int (2 : Int32)), (.int (7 : Int32))]) rfl ?_
  refine Goes.if2 A d1_19 (by decide) (pc' := 26) (by decide) (fun hc3 => ?_) (fun hc => absurd (cP_t (by decide)) hc)
  refine Goes.blk A _ b1_26_2 (pc' := 28) (Ls' := #[.val (.int (7 : Int32))]) (st' := [(.int (3 : Int32)), (.int (7 : Int32))]) rfl ?_
  refine Goes.if2 A d1_28 (by decide) (pc' := 35) (by decide) (fun hc4 => ?_) (fun hc => absurd (cP_t (by decide)) hc)
  refine Goes.blk A _ b1_35_2 (pc' := 37) (Ls' := #[.val (.int (7 : Int32))]) (st' := [(.int (4 : Int32)), (.int (7 : Int32))]) rfl ?_
  refine Goes.if2 A d1_37 (by decide) (pc' := 44) (by decide) (fun hc5 => ?_) (fun hc => absurd (cP_t (by decide)) hc)
  refine Goes.blk A _ b1_44_2 (pc' := 46) (Ls' := #[.val (.int (7 : Int32))]) (st' := [(.int (5 : Int32)), (.int (7 : Int32))]) rfl ?_
  refine Goes.if2 A d1_46 (by decide) (pc' := 53) (by decide) (fun hc6 => ?_) (fun hc => absurd (cP_t (by decide)) hc)
  refine Goes.blk A _ b1_53_2 (pc' := 56) (Ls' := #[.val (.int (7 : Int32))]) (st' := [(.int (6 : Int32)), (.int (7 : Int32))]) rfl ?_
  refine Goes.if2 A d1_56 (by decide) (pc' := 63) (by decide) (fun hc7 => ?_) (fun hc => absurd (cP_t (by decide)) hc)
  refine Goes.blk A _ b1_63_2 (pc' := 66) (Ls' := #[.val (.int (7 : Int32))]) (st' := [(.int (7 : Int32)), (.int (7 : Int32))]) rfl ?_
  refine Goes.if2 A d1_66 (by decide) (pc' := 73) (by decide) (fun hc => absurd hc (cP_f (by decide))) (fun hc8 => ?_)
  refine Goes.getS A (hw _ (List.mem_of_getElem? (i := 28) rfl)) Via.refl S_SUBPROGRAM d1_69 ?_
  exact Goes.retA A hret rfl rfl rfl hlk d1_72 (by decide) (by decide) ⟨rfl, rfl⟩
set_option maxRecDepth 65536 in
set_option maxHeartbeats 40000000 in
theorem kp8 (l : Launch) (Z : State) (n0 : Nat) (a0 : Array Value) (hw : ∀ d ∈ tables_1, d.before a0 Z = true) (h : Heap) (a_SUBPROGRAM_GROUP : Addr) (S_SUBPROGRAM_GROUP : Sta Z h site_81.cls "SUBPROGRAM_GROUP" own_dC (.ref a_SUBPROGRAM_GROUP)) : Con l Z n0 (⟨x.cls, "pick", site_78.desc⟩ : MethodName) method_2_code 1 (some (.object site_81.cls)) ({ frames := 0, cells := 0, slots := 0, locals := 0 } : Room) #[(.int (8 : Int32))] h (fun v h' => v = some (.ref a_SUBPROGRAM_GROUP) ∧ h = h') := by
  refine Con.mk (Ls := #[.val (.int (8 : Int32))]) pn_law (ef1_i (8 : Int32)) ?_
  intro p e s m below meth c A hret hlk hnm
  refine Goes.blk A _ b1_0_1 (pc' := 1) (Ls' := #[.val (.int (8 : Int32))]) (st' := [(.int (8 : Int32))]) rfl ?_
  refine Goes.if1 A d1_1 (by decide) (pc' := 8) (by decide) (fun hc1 => ?_) (fun hc => absurd (cP_t (by decide)) hc)
  refine Goes.blk A _ b1_8_2 (pc' := 10) (Ls' := #[.val (.int (8 : Int32))]) (st' := [(.int (1 : Int32)), (.int (8 : Int32))]) rfl ?_
  refine Goes.if2 A d1_10 (by decide) (pc' := 17) (by decide) (fun hc2 => ?_) (fun hc => absurd (cP_t (by decide)) hc)
  refine Goes.blk A _ b1_17_2 (pc' := 19) (Ls' := #[.val (.int (8 : Int32))]) (st' := [(.int (2 : Int32)), (.int (8 : Int32))]) rfl ?_
  refine Goes.if2 A d1_19 (by decide) (pc' := 26) (by decide) (fun hc3 => ?_) (fun hc => absurd (cP_t (by decide)) hc)
  refine Goes.blk A _ b1_26_2 (pc' := 28) (Ls' := #[.val (.int (8 : Int32))]) (st' := [(.int (3 : Int32)), (.int (8 : Int32))]) rfl ?_
  refine Goes.if2 A d1_28 (by decide) (pc' := 35) (by decide) (fun hc4 => ?_) (fun hc => absurd (cP_t (by decide)) hc)
  refine Goes.blk A _ b1_35_2 (pc' := 37) (Ls' := #[.val (.int (8 : Int32))]) (st' := [(.int (4 : Int32)), (.int (8 : Int32))]) rfl ?_
  refine Goes.if2 A d1_37 (by decide) (pc' := 44) (by decide) (fun hc5 => ?_) (fun hc => absurd (cP_t (by decide)) hc)
  refine Goes.blk A _ b1_44_2 (pc' := 46) (Ls' := #[.val (.int (8 : Int32))]) (st' := [(.int (5 : Int32)), (.int (8 : Int32))]) rfl ?_
  refine Goes.if2 A d1_46 (by decide) (pc' := 53) (by decide) (fun hc6 => ?_) (fun hc => absurd (cP_t (by decide)) hc)
  refine Goes.blk A _ b1_53_2 (pc' := 56) (Ls' := #[.val (.int (8 : Int32))]) (st' := [(.int (6 : Int32)), (.int (8 : Int32))]) rfl ?_
  refine Goes.if2 A d1_56 (by decide) (pc' := 63) (by decide) (fun hc7 => ?_) (fun hc => absurd (cP_t (by decide)) hc)
  refine Goes.blk A _ b1_63_2 (pc' := 66) (Ls' := #[.val (.int (8 : Int32))]) (st' := [(.int (7 : Int32)), (.int (8 : Int32))]) rfl ?_
  refine Goes.if2 A d1_66 (by decide) (pc' := 73) (by decide) (fun hc8 => ?_) (fun hc => absurd (cP_t (by decide)) hc)
  refine Goes.blk A _ b1_73_2 (pc' := 76) (Ls' := #[.val (.int (8 : Int32))]) (st' := [(.int (8 : Int32)), (.int (8 : Int32))]) rfl ?_
  refine Goes.if2 A d1_76 (by decide) (pc' := 83) (by decide) (fun hc => absurd hc (cP_f (by decide))) (fun hc9 => ?_)
  refine Goes.getS A (hw _ (List.mem_of_getElem? (i := 34) rfl)) Via.refl S_SUBPROGRAM_GROUP d1_79 ?_
  exact Goes.retA A hret rfl rfl rfl hlk d1_82 (by decide) (by decide) ⟨rfl, rfl⟩
set_option maxRecDepth 65536 in
set_option maxHeartbeats 40000000 in
theorem kp9 (l : Launch) (Z : State) (n0 : Nat) (a0 : Array Value) (hw : ∀ d ∈ tables_1, d.before a0 Z = true) (h : Heap) (a_SYSTEM : Addr) (S_SYSTEM : Sta Z h site_81.cls "SYSTEM" own_dC (.ref a_SYSTEM)) : Con l Z n0 (⟨x.cls, "pick", site_78.desc⟩ : MethodName) method_2_code 1 (some (.object site_81.cls)) ({ frames := 0, cells := 0, slots := 0, locals := 0 } : Room) #[(.int (9 : Int32))] h (fun v h' => v = some (.ref a_SYSTEM) ∧ h = h') := by
  refine Con.mk (Ls := #[.val (.int (9 : Int32))]) pn_law (ef1_i (9 : Int32)) ?_
  intro p e s m below meth c A hret hlk hnm
  refine Goes.blk A _ b1_0_1 (pc' := 1) (Ls' := #[.val (.int (9 : Int32))]) (st' := [(.int (9 : Int32))]) rfl ?_
  refine Goes.if1 A d1_1 (by decide) (pc' := 8) (by decide) (fun hc1 => ?_) (fun hc => absurd (cP_t (by decide)) hc)
  refine Goes.blk A _ b1_8_2 (pc' := 10) (Ls' := #[.val (.int (9 : Int32))]) (st' := [(.int (1 : Int32)), (.int (9 : Int32))]) rfl ?_
  refine Goes.if2 A d1_10 (by decide) (pc' := 17) (by decide) (fun hc2 => ?_) (fun hc => absurd (cP_t (by decide)) hc)
  refine Goes.blk A _ b1_17_2 (pc' := 19) (Ls' := #[.val (.int (9 : Int32))]) (st' := [(.int (2 : Int32)), (.int (9 : Int32))]) rfl ?_
  refine Goes.if2 A d1_19 (by decide) (pc' := 26) (by decide) (fun hc3 => ?_) (fun hc => absurd (cP_t (by decide)) hc)
  refine Goes.blk A _ b1_26_2 (pc' := 28) (Ls' := #[.val (.int (9 : Int32))]) (st' := [(.int (3 : Int32)), (.int (9 : Int32))]) rfl ?_
  refine Goes.if2 A d1_28 (by decide) (pc' := 35) (by decide) (fun hc4 => ?_) (fun hc => absurd (cP_t (by decide)) hc)
  refine Goes.blk A _ b1_35_2 (pc' := 37) (Ls' := #[.val (.int (9 : Int32))]) (st' := [(.int (4 : Int32)), (.int (9 : Int32))]) rfl ?_
  refine Goes.if2 A d1_37 (by decide) (pc' := 44) (by decide) (fun hc5 => ?_) (fun hc => absurd (cP_t (by decide)) hc)
  refine Goes.blk A _ b1_44_2 (pc' := 46) (Ls' := #[.val (.int (9 : Int32))]) (st' := [(.int (5 : Int32)), (.int (9 : Int32))]) rfl ?_
  refine Goes.if2 A d1_46 (by decide) (pc' := 53) (by decide) (fun hc6 => ?_) (fun hc => absurd (cP_t (by decide)) hc)
  refine Goes.blk A _ b1_53_2 (pc' := 56) (Ls' := #[.val (.int (9 : Int32))]) (st' := [(.int (6 : Int32)), (.int (9 : Int32))]) rfl ?_
  refine Goes.if2 A d1_56 (by decide) (pc' := 63) (by decide) (fun hc7 => ?_) (fun hc => absurd (cP_t (by decide)) hc)
  refine Goes.blk A _ b1_63_2 (pc' := 66) (Ls' := #[.val (.int (9 : Int32))]) (st' := [(.int (7 : Int32)), (.int (9 : Int32))]) rfl ?_
  refine Goes.if2 A d1_66 (by decide) (pc' := 73) (by decide) (fun hc8 => ?_) (fun hc => absurd (cP_t (by decide)) hc)
  refine Goes.blk A _ b1_73_2 (pc' := 76) (Ls' := #[.val (.int (9 : Int32))]) (st' := [(.int (8 : Int32)), (.int (9 : Int32))]) rfl ?_
  refine Goes.if2 A d1_76 (by decide) (pc' := 83) (by decide) (fun hc9 => ?_) (fun hc => absurd (cP_t (by decide)) hc)
  refine Goes.blk A _ b1_83_2 (pc' := 86) (Ls' := #[.val (.int (9 : Int32))]) (st' := [(.int (9 : Int32)), (.int (9 : Int32))]) rfl ?_
  refine Goes.if2 A d1_86 (by decide) (pc' := 93) (by decide) (fun hc => absurd hc (cP_f (by decide))) (fun hc10 => ?_)
  refine Goes.getS A (hw _ (List.mem_of_getElem? (i := 37) rfl)) Via.refl S_SYSTEM d1_89 ?_
  exact Goes.retA A hret rfl rfl rfl hlk d1_92 (by decide) (by decide) ⟨rfl, rfl⟩
set_option maxRecDepth 65536 in
set_option maxHeartbeats 40000000 in
theorem kp10 (l : Launch) (Z : State) (n0 : Nat) (a0 : Array Value) (hw : ∀ d ∈ tables_1, d.before a0 Z = true) (h : Heap) (a_THREAD : Addr) (S_THREAD : Sta Z h site_81.cls "THREAD" own_dC (.ref a_THREAD)) : Con l Z n0 (⟨x.cls, "pick", site_78.desc⟩ : MethodName) method_2_code 1 (some (.object site_81.cls)) ({ frames := 0, cells := 0, slots := 0, locals := 0 } : Room) #[(.int (10 : Int32))] h (fun v h' => v = some (.ref a_THREAD) ∧ h = h') := by
  refine Con.mk (Ls := #[.val (.int (10 : Int32))]) pn_law (ef1_i (10 : Int32)) ?_
  intro p e s m below meth c A hret hlk hnm
  refine Goes.blk A _ b1_0_1 (pc' := 1) (Ls' := #[.val (.int (10 : Int32))]) (st' := [(.int (10 : Int32))]) rfl ?_
  refine Goes.if1 A d1_1 (by decide) (pc' := 8) (by decide) (fun hc1 => ?_) (fun hc => absurd (cP_t (by decide)) hc)
  refine Goes.blk A _ b1_8_2 (pc' := 10) (Ls' := #[.val (.int (10 : Int32))]) (st' := [(.int (1 : Int32)), (.int (10 : Int32))]) rfl ?_
  refine Goes.if2 A d1_10 (by decide) (pc' := 17) (by decide) (fun hc2 => ?_) (fun hc => absurd (cP_t (by decide)) hc)
  refine Goes.blk A _ b1_17_2 (pc' := 19) (Ls' := #[.val (.int (10 : Int32))]) (st' := [(.int (2 : Int32)), (.int (10 : Int32))]) rfl ?_
  refine Goes.if2 A d1_19 (by decide) (pc' := 26) (by decide) (fun hc3 => ?_) (fun hc => absurd (cP_t (by decide)) hc)
  refine Goes.blk A _ b1_26_2 (pc' := 28) (Ls' := #[.val (.int (10 : Int32))]) (st' := [(.int (3 : Int32)), (.int (10 : Int32))]) rfl ?_
  refine Goes.if2 A d1_28 (by decide) (pc' := 35) (by decide) (fun hc4 => ?_) (fun hc => absurd (cP_t (by decide)) hc)
  refine Goes.blk A _ b1_35_2 (pc' := 37) (Ls' := #[.val (.int (10 : Int32))]) (st' := [(.int (4 : Int32)), (.int (10 : Int32))]) rfl ?_
  refine Goes.if2 A d1_37 (by decide) (pc' := 44) (by decide) (fun hc5 => ?_) (fun hc => absurd (cP_t (by decide)) hc)
  refine Goes.blk A _ b1_44_2 (pc' := 46) (Ls' := #[.val (.int (10 : Int32))]) (st' := [(.int (5 : Int32)), (.int (10 : Int32))]) rfl ?_
  refine Goes.if2 A d1_46 (by decide) (pc' := 53) (by decide) (fun hc6 => ?_) (fun hc => absurd (cP_t (by decide)) hc)
  refine Goes.blk A _ b1_53_2 (pc' := 56) (Ls' := #[.val (.int (10 : Int32))]) (st' := [(.int (6 : Int32)), (.int (10 : Int32))]) rfl ?_
  refine Goes.if2 A d1_56 (by decide) (pc' := 63) (by decide) (fun hc7 => ?_) (fun hc => absurd (cP_t (by decide)) hc)
  refine Goes.blk A _ b1_63_2 (pc' := 66) (Ls' := #[.val (.int (10 : Int32))]) (st' := [(.int (7 : Int32)), (.int (10 : Int32))]) rfl ?_
  refine Goes.if2 A d1_66 (by decide) (pc' := 73) (by decide) (fun hc8 => ?_) (fun hc => absurd (cP_t (by decide)) hc)
  refine Goes.blk A _ b1_73_2 (pc' := 76) (Ls' := #[.val (.int (10 : Int32))]) (st' := [(.int (8 : Int32)), (.int (10 : Int32))]) rfl ?_
  refine Goes.if2 A d1_76 (by decide) (pc' := 83) (by decide) (fun hc9 => ?_) (fun hc => absurd (cP_t (by decide)) hc)
  refine Goes.blk A _ b1_83_2 (pc' := 86) (Ls' := #[.val (.int (10 : Int32))]) (st' := [(.int (9 : Int32)), (.int (10 : Int32))]) rfl ?_
  refine Goes.if2 A d1_86 (by decide) (pc' := 93) (by decide) (fun hc10 => ?_) (fun hc => absurd (cP_t (by decide)) hc)
  refine Goes.blk A _ b1_93_2 (pc' := 96) (Ls' := #[.val (.int (10 : Int32))]) (st' := [(.int (10 : Int32)), (.int (10 : Int32))]) rfl ?_
  refine Goes.if2 A d1_96 (by decide) (pc' := 103) (by decide) (fun hc => absurd hc (cP_f (by decide))) (fun hc11 => ?_)
  refine Goes.getS A (hw _ (List.mem_of_getElem? (i := 32) rfl)) Via.refl S_THREAD d1_99 ?_
  exact Goes.retA A hret rfl rfl rfl hlk d1_102 (by decide) (by decide) ⟨rfl, rfl⟩
set_option maxRecDepth 65536 in
set_option maxHeartbeats 40000000 in
theorem kp11 (l : Launch) (Z : State) (n0 : Nat) (a0 : Array Value) (hw : ∀ d ∈ tables_1, d.before a0 Z = true) (h : Heap) (a_THREAD_GROUP : Addr) (S_THREAD_GROUP : Sta Z h site_81.cls "THREAD_GROUP" own_dC (.ref a_THREAD_GROUP)) : Con l Z n0 (⟨x.cls, "pick", site_78.desc⟩ : MethodName) method_2_code 1 (some (.object site_81.cls)) ({ frames := 0, cells := 0, slots := 0, locals := 0 } : Room) #[(.int (11 : Int32))] h (fun v h' => v = some (.ref a_THREAD_GROUP) ∧ h = h') := by
  refine Con.mk (Ls := #[.val (.int (11 : Int32))]) pn_law (ef1_i (11 : Int32)) ?_
  intro p e s m below meth c A hret hlk hnm
  refine Goes.blk A _ b1_0_1 (pc' := 1) (Ls' := #[.val (.int (11 : Int32))]) (st' := [(.int (11 : Int32))]) rfl ?_
  refine Goes.if1 A d1_1 (by decide) (pc' := 8) (by decide) (fun hc1 => ?_) (fun hc => absurd (cP_t (by decide)) hc)
  refine Goes.blk A _ b1_8_2 (pc' := 10) (Ls' := #[.val (.int (11 : Int32))]) (st' := [(.int (1 : Int32)), (.int (11 : Int32))]) rfl ?_
  refine Goes.if2 A d1_10 (by decide) (pc' := 17) (by decide) (fun hc2 => ?_) (fun hc => absurd (cP_t (by decide)) hc)
  refine Goes.blk A _ b1_17_2 (pc' := 19) (Ls' := #[.val (.int (11 : Int32))]) (st' := [(.int (2 : Int32)), (.int (11 : Int32))]) rfl ?_
  refine Goes.if2 A d1_19 (by decide) (pc' := 26) (by decide) (fun hc3 => ?_) (fun hc => absurd (cP_t (by decide)) hc)
  refine Goes.blk A _ b1_26_2 (pc' := 28) (Ls' := #[.val (.int (11 : Int32))]) (st' := [(.int (3 : Int32)), (.int (11 : Int32))]) rfl ?_
  refine Goes.if2 A d1_28 (by decide) (pc' := 35) (by decide) (fun hc4 => ?_) (fun hc => absurd (cP_t (by decide)) hc)
  refine Goes.blk A _ b1_35_2 (pc' := 37) (Ls' := #[.val (.int (11 : Int32))]) (st' := [(.int (4 : Int32)), (.int (11 : Int32))]) rfl ?_
  refine Goes.if2 A d1_37 (by decide) (pc' := 44) (by decide) (fun hc5 => ?_) (fun hc => absurd (cP_t (by decide)) hc)
  refine Goes.blk A _ b1_44_2 (pc' := 46) (Ls' := #[.val (.int (11 : Int32))]) (st' := [(.int (5 : Int32)), (.int (11 : Int32))]) rfl ?_
  refine Goes.if2 A d1_46 (by decide) (pc' := 53) (by decide) (fun hc6 => ?_) (fun hc => absurd (cP_t (by decide)) hc)
  refine Goes.blk A _ b1_53_2 (pc' := 56) (Ls' := #[.val (.int (11 : Int32))]) (st' := [(.int (6 : Int32)), (.int (11 : Int32))]) rfl ?_
  refine Goes.if2 A d1_56 (by decide) (pc' := 63) (by decide) (fun hc7 => ?_) (fun hc => absurd (cP_t (by decide)) hc)
  refine Goes.blk A _ b1_63_2 (pc' := 66) (Ls' := #[.val (.int (11 : Int32))]) (st' := [(.int (7 : Int32)), (.int (11 : Int32))]) rfl ?_
  refine Goes.if2 A d1_66 (by decide) (pc' := 73) (by decide) (fun hc8 => ?_) (fun hc => absurd (cP_t (by decide)) hc)
  refine Goes.blk A _ b1_73_2 (pc' := 76) (Ls' := #[.val (.int (11 : Int32))]) (st' := [(.int (8 : Int32)), (.int (11 : Int32))]) rfl ?_
  refine Goes.if2 A d1_76 (by decide) (pc' := 83) (by decide) (fun hc9 => ?_) (fun hc => absurd (cP_t (by decide)) hc)
  refine Goes.blk A _ b1_83_2 (pc' := 86) (Ls' := #[.val (.int (11 : Int32))]) (st' := [(.int (9 : Int32)), (.int (11 : Int32))]) rfl ?_
  refine Goes.if2 A d1_86 (by decide) (pc' := 93) (by decide) (fun hc10 => ?_) (fun hc => absurd (cP_t (by decide)) hc)
  refine Goes.blk A _ b1_93_2 (pc' := 96) (Ls' := #[.val (.int (11 : Int32))]) (st' := [(.int (10 : Int32)), (.int (11 : Int32))]) rfl ?_
  refine Goes.if2 A d1_96 (by decide) (pc' := 103) (by decide) (fun hc11 => ?_) (fun hc => absurd (cP_t (by decide)) hc)
  refine Goes.blk A _ b1_103_2 (pc' := 106) (Ls' := #[.val (.int (11 : Int32))]) (st' := [(.int (11 : Int32)), (.int (11 : Int32))]) rfl ?_
  refine Goes.if2 A d1_106 (by decide) (pc' := 113) (by decide) (fun hc => absurd hc (cP_f (by decide))) (fun hc12 => ?_)
  refine Goes.getS A (hw _ (List.mem_of_getElem? (i := 30) rfl)) Via.refl S_THREAD_GROUP d1_109 ?_
  exact Goes.retA A hret rfl rfl rfl hlk d1_112 (by decide) (by decide) ⟨rfl, rfl⟩
set_option maxRecDepth 65536 in
set_option maxHeartbeats 40000000 in
theorem kp12 (l : Launch) (Z : State) (n0 : Nat) (a0 : Array Value) (hw : ∀ d ∈ tables_1, d.before a0 Z = true) (h : Heap) (a_VIRTUAL_BUS : Addr) (S_VIRTUAL_BUS : Sta Z h site_81.cls "VIRTUAL_BUS" own_dC (.ref a_VIRTUAL_BUS)) : Con l Z n0 (⟨x.cls, "pick", site_78.desc⟩ : MethodName) method_2_code 1 (some (.object site_81.cls)) ({ frames := 0, cells := 0, slots := 0, locals := 0 } : Room) #[(.int (12 : Int32))] h (fun v h' => v = some (.ref a_VIRTUAL_BUS) ∧ h = h') := by
  refine Con.mk (Ls := #[.val (.int (12 : Int32))]) pn_law (ef1_i (12 : Int32)) ?_
  intro p e s m below meth c A hret hlk hnm
  refine Goes.blk A _ b1_0_1 (pc' := 1) (Ls' := #[.val (.int (12 : Int32))]) (st' := [(.int (12 : Int32))]) rfl ?_
  refine Goes.if1 A d1_1 (by decide) (pc' := 8) (by decide) (fun hc1 => ?_) (fun hc => absurd (cP_t (by decide)) hc)
  refine Goes.blk A _ b1_8_2 (pc' := 10) (Ls' := #[.val (.int (12 : Int32))]) (st' := [(.int (1 : Int32)), (.int (12 : Int32))]) rfl ?_
  refine Goes.if2 A d1_10 (by decide) (pc' := 17) (by decide) (fun hc2 => ?_) (fun hc => absurd (cP_t (by decide)) hc)
  refine Goes.blk A _ b1_17_2 (pc' := 19) (Ls' := #[.val (.int (12 : Int32))]) (st' := [(.int (2 : Int32)), (.int (12 : Int32))]) rfl ?_
  refine Goes.if2 A d1_19 (by decide) (pc' := 26) (by decide) (fun hc3 => ?_) (fun hc => absurd (cP_t (by decide)) hc)
  refine Goes.blk A _ b1_26_2 (pc' := 28) (Ls' := #[.val (.int (12 : Int32))]) (st' := [(.int (3 : Int32)), (.int (12 : Int32))]) rfl ?_
  refine Goes.if2 A d1_28 (by decide) (pc' := 35) (by decide) (fun hc4 => ?_) (fun hc => absurd (cP_t (by decide)) hc)
  refine Goes.blk A _ b1_35_2 (pc' := 37) (Ls' := #[.val (.int (12 : Int32))]) (st' := [(.int (4 : Int32)), (.int (12 : Int32))]) rfl ?_
  refine Goes.if2 A d1_37 (by decide) (pc' := 44) (by decide) (fun hc5 => ?_) (fun hc => absurd (cP_t (by decide)) hc)
  refine Goes.blk A _ b1_44_2 (pc' := 46) (Ls' := #[.val (.int (12 : Int32))]) (st' := [(.int (5 : Int32)), (.int (12 : Int32))]) rfl ?_
  refine Goes.if2 A d1_46 (by decide) (pc' := 53) (by decide) (fun hc6 => ?_) (fun hc => absurd (cP_t (by decide)) hc)
  refine Goes.blk A _ b1_53_2 (pc' := 56) (Ls' := #[.val (.int (12 : Int32))]) (st' := [(.int (6 : Int32)), (.int (12 : Int32))]) rfl ?_
  refine Goes.if2 A d1_56 (by decide) (pc' := 63) (by decide) (fun hc7 => ?_) (fun hc => absurd (cP_t (by decide)) hc)
  refine Goes.blk A _ b1_63_2 (pc' := 66) (Ls' := #[.val (.int (12 : Int32))]) (st' := [(.int (7 : Int32)), (.int (12 : Int32))]) rfl ?_
  refine Goes.if2 A d1_66 (by decide) (pc' := 73) (by decide) (fun hc8 => ?_) (fun hc => absurd (cP_t (by decide)) hc)
  refine Goes.blk A _ b1_73_2 (pc' := 76) (Ls' := #[.val (.int (12 : Int32))]) (st' := [(.int (8 : Int32)), (.int (12 : Int32))]) rfl ?_
  refine Goes.if2 A d1_76 (by decide) (pc' := 83) (by decide) (fun hc9 => ?_) (fun hc => absurd (cP_t (by decide)) hc)
  refine Goes.blk A _ b1_83_2 (pc' := 86) (Ls' := #[.val (.int (12 : Int32))]) (st' := [(.int (9 : Int32)), (.int (12 : Int32))]) rfl ?_
  refine Goes.if2 A d1_86 (by decide) (pc' := 93) (by decide) (fun hc10 => ?_) (fun hc => absurd (cP_t (by decide)) hc)
  refine Goes.blk A _ b1_93_2 (pc' := 96) (Ls' := #[.val (.int (12 : Int32))]) (st' := [(.int (10 : Int32)), (.int (12 : Int32))]) rfl ?_
  refine Goes.if2 A d1_96 (by decide) (pc' := 103) (by decide) (fun hc11 => ?_) (fun hc => absurd (cP_t (by decide)) hc)
  refine Goes.blk A _ b1_103_2 (pc' := 106) (Ls' := #[.val (.int (12 : Int32))]) (st' := [(.int (11 : Int32)), (.int (12 : Int32))]) rfl ?_
  refine Goes.if2 A d1_106 (by decide) (pc' := 113) (by decide) (fun hc12 => ?_) (fun hc => absurd (cP_t (by decide)) hc)
  refine Goes.blk A _ b1_113_2 (pc' := 116) (Ls' := #[.val (.int (12 : Int32))]) (st' := [(.int (12 : Int32)), (.int (12 : Int32))]) rfl ?_
  refine Goes.if2 A d1_116 (by decide) (pc' := 123) (by decide) (fun hc => absurd hc (cP_f (by decide))) (fun hc13 => ?_)
  refine Goes.getS A (hw _ (List.mem_of_getElem? (i := 22) rfl)) Via.refl S_VIRTUAL_BUS d1_119 ?_
  exact Goes.retA A hret rfl rfl rfl hlk d1_122 (by decide) (by decide) ⟨rfl, rfl⟩
set_option maxRecDepth 65536 in
set_option maxHeartbeats 40000000 in
theorem kp13 (l : Launch) (Z : State) (n0 : Nat) (a0 : Array Value) (hw : ∀ d ∈ tables_1, d.before a0 Z = true) (h : Heap) (a_VIRTUAL_PROCESSOR : Addr) (S_VIRTUAL_PROCESSOR : Sta Z h site_81.cls "VIRTUAL_PROCESSOR" own_dC (.ref a_VIRTUAL_PROCESSOR)) : Con l Z n0 (⟨x.cls, "pick", site_78.desc⟩ : MethodName) method_2_code 1 (some (.object site_81.cls)) ({ frames := 0, cells := 0, slots := 0, locals := 0 } : Room) #[(.int (13 : Int32))] h (fun v h' => v = some (.ref a_VIRTUAL_PROCESSOR) ∧ h = h') := by
  refine Con.mk (Ls := #[.val (.int (13 : Int32))]) pn_law (ef1_i (13 : Int32)) ?_
  intro p e s m below meth c A hret hlk hnm
  refine Goes.blk A _ b1_0_1 (pc' := 1) (Ls' := #[.val (.int (13 : Int32))]) (st' := [(.int (13 : Int32))]) rfl ?_
  refine Goes.if1 A d1_1 (by decide) (pc' := 8) (by decide) (fun hc1 => ?_) (fun hc => absurd (cP_t (by decide)) hc)
  refine Goes.blk A _ b1_8_2 (pc' := 10) (Ls' := #[.val (.int (13 : Int32))]) (st' := [(.int (1 : Int32)), (.int (13 : Int32))]) rfl ?_
  refine Goes.if2 A d1_10 (by decide) (pc' := 17) (by decide) (fun hc2 => ?_) (fun hc => absurd (cP_t (by decide)) hc)
  refine Goes.blk A _ b1_17_2 (pc' := 19) (Ls' := #[.val (.int (13 : Int32))]) (st' := [(.int (2 : Int32)), (.int (13 : Int32))]) rfl ?_
  refine Goes.if2 A d1_19 (by decide) (pc' := 26) (by decide) (fun hc3 => ?_) (fun hc => absurd (cP_t (by decide)) hc)
  refine Goes.blk A _ b1_26_2 (pc' := 28) (Ls' := #[.val (.int (13 : Int32))]) (st' := [(.int (3 : Int32)), (.int (13 : Int32))]) rfl ?_
  refine Goes.if2 A d1_28 (by decide) (pc' := 35) (by decide) (fun hc4 => ?_) (fun hc => absurd (cP_t (by decide)) hc)
  refine Goes.blk A _ b1_35_2 (pc' := 37) (Ls' := #[.val (.int (13 : Int32))]) (st' := [(.int (4 : Int32)), (.int (13 : Int32))]) rfl ?_
  refine Goes.if2 A d1_37 (by decide) (pc' := 44) (by decide) (fun hc5 => ?_) (fun hc => absurd (cP_t (by decide)) hc)
  refine Goes.blk A _ b1_44_2 (pc' := 46) (Ls' := #[.val (.int (13 : Int32))]) (st' := [(.int (5 : Int32)), (.int (13 : Int32))]) rfl ?_
  refine Goes.if2 A d1_46 (by decide) (pc' := 53) (by decide) (fun hc6 => ?_) (fun hc => absurd (cP_t (by decide)) hc)
  refine Goes.blk A _ b1_53_2 (pc' := 56) (Ls' := #[.val (.int (13 : Int32))]) (st' := [(.int (6 : Int32)), (.int (13 : Int32))]) rfl ?_
  refine Goes.if2 A d1_56 (by decide) (pc' := 63) (by decide) (fun hc7 => ?_) (fun hc => absurd (cP_t (by decide)) hc)
  refine Goes.blk A _ b1_63_2 (pc' := 66) (Ls' := #[.val (.int (13 : Int32))]) (st' := [(.int (7 : Int32)), (.int (13 : Int32))]) rfl ?_
  refine Goes.if2 A d1_66 (by decide) (pc' := 73) (by decide) (fun hc8 => ?_) (fun hc => absurd (cP_t (by decide)) hc)
  refine Goes.blk A _ b1_73_2 (pc' := 76) (Ls' := #[.val (.int (13 : Int32))]) (st' := [(.int (8 : Int32)), (.int (13 : Int32))]) rfl ?_
  refine Goes.if2 A d1_76 (by decide) (pc' := 83) (by decide) (fun hc9 => ?_) (fun hc => absurd (cP_t (by decide)) hc)
  refine Goes.blk A _ b1_83_2 (pc' := 86) (Ls' := #[.val (.int (13 : Int32))]) (st' := [(.int (9 : Int32)), (.int (13 : Int32))]) rfl ?_
  refine Goes.if2 A d1_86 (by decide) (pc' := 93) (by decide) (fun hc10 => ?_) (fun hc => absurd (cP_t (by decide)) hc)
  refine Goes.blk A _ b1_93_2 (pc' := 96) (Ls' := #[.val (.int (13 : Int32))]) (st' := [(.int (10 : Int32)), (.int (13 : Int32))]) rfl ?_
  refine Goes.if2 A d1_96 (by decide) (pc' := 103) (by decide) (fun hc11 => ?_) (fun hc => absurd (cP_t (by decide)) hc)
  refine Goes.blk A _ b1_103_2 (pc' := 106) (Ls' := #[.val (.int (13 : Int32))]) (st' := [(.int (11 : Int32)), (.int (13 : Int32))]) rfl ?_
  refine Goes.if2 A d1_106 (by decide) (pc' := 113) (by decide) (fun hc12 => ?_) (fun hc => absurd (cP_t (by decide)) hc)
  refine Goes.blk A _ b1_113_2 (pc' := 116) (Ls' := #[.val (.int (13 : Int32))]) (st' := [(.int (12 : Int32)), (.int (13 : Int32))]) rfl ?_
  refine Goes.if2 A d1_116 (by decide) (pc' := 123) (by decide) (fun hc13 => ?_) (fun hc => absurd (cP_t (by decide)) hc)
  refine Goes.getS A (hw _ (List.mem_of_getElem? (i := 24) rfl)) Via.refl S_VIRTUAL_PROCESSOR d1_123 ?_
  exact Goes.retA A hret rfl rfl rfl hlk d1_126 (by decide) (by decide) ⟨rfl, rfl⟩
set_option maxRecDepth 65536 in
set_option maxHeartbeats 40000000 in
theorem ks (l : Launch) (Z : State) (n0 : Nat) (a0 : Array Value) (hw : ∀ d ∈ tables_1, d.before a0 Z = true) (h : Heap) (a a_DATA a_SUBPROGRAM a_SUBPROGRAM_GROUP : Addr) (z : Int32) (hz : z = if a = a_DATA ∨ a = a_SUBPROGRAM ∨ a = a_SUBPROGRAM_GROUP then 0 else 1) (S_DATA : Sta Z h site_81.cls "DATA" own_dC (.ref a_DATA)) (S_SUBPROGRAM : Sta Z h site_81.cls "SUBPROGRAM" own_dC (.ref a_SUBPROGRAM)) (S_SUBPROGRAM_GROUP : Sta Z h site_81.cls "SUBPROGRAM_GROUP" own_dC (.ref a_SUBPROGRAM_GROUP)) : Con l Z n0 (⟨site_81.cls, "isSubject", "()Z"⟩ : MethodName) prog_66_method_4_code 1 (some .boolean) ({ frames := 0, cells := 0, slots := 0, locals := 0 } : Room) #[(.ref a)] h (fun v h' => v = some (.int z) ∧ h = h') := by
  refine Con.mk (Ls := #[.val (.ref a)]) pn_cat (ef2_r a) ?_
  intro p e s m below meth c A hret hlk hnm
  refine Goes.blk A _ b2_0_1 (pc' := 1) (Ls' := #[.val (.ref a)]) (st' := [(.ref a)]) rfl ?_
  refine Goes.getS A (hw _ (List.mem_of_getElem? (i := 14) rfl)) Via.refl S_DATA d2_1 ?_
  refine Goes.ifA A d2_4 rfl rfl (by decide) (pc' := 25) (by decide) (fun hc1 => ?_) (fun hc1 => ?_)
  · skip
    refine Goes.blk A _ b2_25_1 (pc' := 26) (Ls' := #[.val (.ref a)]) (st' := [(.int (0 : Int32))]) rfl ?_
    exact Goes.retB A hret (by simp) hlk d2_26 (z' := 0) (by decide) (by decide) (by decide) ⟨by rw [hz, if_pos (Or.inl (Value.ref.inj hc1))], rfl⟩
  refine Goes.blk A _ b2_7_1 (pc' := 8) (Ls' := #[.val (.ref a)]) (st' := [(.ref a)]) rfl ?_
  refine Goes.getS A (hw _ (List.mem_of_getElem? (i := 16) rfl)) Via.refl S_SUBPROGRAM d2_8 ?_
  refine Goes.ifA A d2_11 rfl rfl (by decide) (pc' := 25) (by decide) (fun hc2 => ?_) (fun hc2 => ?_)
  · skip
    refine Goes.blk A _ b2_25_1 (pc' := 26) (Ls' := #[.val (.ref a)]) (st' := [(.int (0 : Int32))]) rfl ?_
    exact Goes.retB A hret (by simp) hlk d2_26 (z' := 0) (by decide) (by decide) (by decide) ⟨by rw [hz, if_pos (Or.inr (Or.inl (Value.ref.inj hc2)))], rfl⟩
  refine Goes.blk A _ b2_14_1 (pc' := 15) (Ls' := #[.val (.ref a)]) (st' := [(.ref a)]) rfl ?_
  refine Goes.getS A (hw _ (List.mem_of_getElem? (i := 18) rfl)) Via.refl S_SUBPROGRAM_GROUP d2_15 ?_
  refine Goes.ifA A d2_18 rfl rfl (by decide) (pc' := 25) (by decide) (fun hc3 => ?_) (fun hc3 => ?_)
  · skip
    refine Goes.blk A _ b2_25_1 (pc' := 26) (Ls' := #[.val (.ref a)]) (st' := [(.int (0 : Int32))]) rfl ?_
    exact Goes.retB A hret (by simp) hlk d2_26 (z' := 0) (by decide) (by decide) (by decide) ⟨by rw [hz, if_pos (Or.inr (Or.inr (Value.ref.inj hc3)))], rfl⟩
  refine Goes.blk A _ b2_21_1 (pc' := 22) (Ls' := #[.val (.ref a)]) (st' := [(.int (1 : Int32))]) rfl ?_
  refine Goes.jump A d2_22 (by decide) (pc' := 26) (by decide) ?_
  exact Goes.retB A hret (by simp) hlk d2_26 (z' := 1) (by decide) (by decide) (by decide) ⟨by rw [hz, if_neg (fun q => q.elim (fun q => hc1 (congrArg Value.ref q)) (fun q => q.elim (fun q => hc2 (congrArg Value.ref q)) (fun q => hc3 (congrArg Value.ref q))))], rfl⟩
abbrev GG (a0 a1 a2 a3 a4 a5 a6 a7 a8 a9 a10 a11 a12 a13 : Addr) : List SO := [((site_81.cls, "ABSTRACT", own_dC), .ref a0), ((site_81.cls, "BUS", own_dC), .ref a1), ((site_81.cls, "DATA", own_dC), .ref a2), ((site_81.cls, "DEVICE", own_dC), .ref a3), ((site_81.cls, "MEMORY", own_dC), .ref a4), ((site_81.cls, "PROCESS", own_dC), .ref a5), ((site_81.cls, "PROCESSOR", own_dC), .ref a6), ((site_81.cls, "SUBPROGRAM", own_dC), .ref a7), ((site_81.cls, "SUBPROGRAM_GROUP", own_dC), .ref a8), ((site_81.cls, "SYSTEM", own_dC), .ref a9), ((site_81.cls, "THREAD", own_dC), .ref a10), ((site_81.cls, "THREAD_GROUP", own_dC), .ref a11), ((site_81.cls, "VIRTUAL_BUS", own_dC), .ref a12), ((site_81.cls, "VIRTUAL_PROCESSOR", own_dC), .ref a13)]
set_option maxRecDepth 65536 in
set_option maxHeartbeats 40000000 in
theorem k0 (l : Launch) (Z : State) (n0 : Nat) (a0 : Array Value) (hw : ∀ d ∈ tables_1, d.before a0 Z = true) (h : Heap) (Z0 : n0 ≤ h.size) (p1 : Int32) (a_ABSTRACT a_BUS a_DATA a_DEVICE a_MEMORY a_PROCESS a_PROCESSOR a_SUBPROGRAM a_SUBPROGRAM_GROUP a_SYSTEM a_THREAD a_THREAD_GROUP a_VIRTUAL_BUS a_VIRTUAL_PROCESSOR : Addr) (E_ABSTRACT : Exa Z h a_ABSTRACT site_81.cls) (E_BUS : Exa Z h a_BUS site_81.cls) (E_DATA : Exa Z h a_DATA site_81.cls) (E_DEVICE : Exa Z h a_DEVICE site_81.cls) (E_MEMORY : Exa Z h a_MEMORY site_81.cls) (E_PROCESS : Exa Z h a_PROCESS site_81.cls) (E_PROCESSOR : Exa Z h a_PROCESSOR site_81.cls) (E_SUBPROGRAM : Exa Z h a_SUBPROGRAM site_81.cls) (E_SUBPROGRAM_GROUP : Exa Z h a_SUBPROGRAM_GROUP site_81.cls) (E_SYSTEM : Exa Z h a_SYSTEM site_81.cls) (E_THREAD : Exa Z h a_THREAD site_81.cls) (E_THREAD_GROUP : Exa Z h a_THREAD_GROUP site_81.cls) (E_VIRTUAL_BUS : Exa Z h a_VIRTUAL_BUS site_81.cls) (E_VIRTUAL_PROCESSOR : Exa Z h a_VIRTUAL_PROCESSOR site_81.cls) (x_ABSTRACT_DATA : ¬ a_ABSTRACT = a_DATA) (x_ABSTRACT_SUBPROGRAM : ¬ a_ABSTRACT = a_SUBPROGRAM) (x_ABSTRACT_SUBPROGRAM_GROUP : ¬ a_ABSTRACT = a_SUBPROGRAM_GROUP) (x_BUS_DATA : ¬ a_BUS = a_DATA) (x_BUS_SUBPROGRAM : ¬ a_BUS = a_SUBPROGRAM) (x_BUS_SUBPROGRAM_GROUP : ¬ a_BUS = a_SUBPROGRAM_GROUP) (x_DEVICE_DATA : ¬ a_DEVICE = a_DATA) (x_DEVICE_SUBPROGRAM : ¬ a_DEVICE = a_SUBPROGRAM) (x_DEVICE_SUBPROGRAM_GROUP : ¬ a_DEVICE = a_SUBPROGRAM_GROUP) (x_MEMORY_DATA : ¬ a_MEMORY = a_DATA) (x_MEMORY_SUBPROGRAM : ¬ a_MEMORY = a_SUBPROGRAM) (x_MEMORY_SUBPROGRAM_GROUP : ¬ a_MEMORY = a_SUBPROGRAM_GROUP) (x_PROCESS_DATA : ¬ a_PROCESS = a_DATA) (x_PROCESS_SUBPROGRAM : ¬ a_PROCESS = a_SUBPROGRAM) (x_PROCESS_SUBPROGRAM_GROUP : ¬ a_PROCESS = a_SUBPROGRAM_GROUP) (x_PROCESSOR_DATA : ¬ a_PROCESSOR = a_DATA) (x_PROCESSOR_SUBPROGRAM : ¬ a_PROCESSOR = a_SUBPROGRAM) (x_PROCESSOR_SUBPROGRAM_GROUP : ¬ a_PROCESSOR = a_SUBPROGRAM_GROUP) (x_SYSTEM_DATA : ¬ a_SYSTEM = a_DATA) (x_SYSTEM_SUBPROGRAM : ¬ a_SYSTEM = a_SUBPROGRAM) (x_SYSTEM_SUBPROGRAM_GROUP : ¬ a_SYSTEM = a_SUBPROGRAM_GROUP) (x_THREAD_DATA : ¬ a_THREAD = a_DATA) (x_THREAD_SUBPROGRAM : ¬ a_THREAD = a_SUBPROGRAM) (x_THREAD_SUBPROGRAM_GROUP : ¬ a_THREAD = a_SUBPROGRAM_GROUP) (x_THREAD_GROUP_DATA : ¬ a_THREAD_GROUP = a_DATA) (x_THREAD_GROUP_SUBPROGRAM : ¬ a_THREAD_GROUP = a_SUBPROGRAM) (x_THREAD_GROUP_SUBPROGRAM_GROUP : ¬ a_THREAD_GROUP = a_SUBPROGRAM_GROUP) (x_VIRTUAL_BUS_DATA : ¬ a_VIRTUAL_BUS = a_DATA) (x_VIRTUAL_BUS_SUBPROGRAM : ¬ a_VIRTUAL_BUS = a_SUBPROGRAM) (x_VIRTUAL_BUS_SUBPROGRAM_GROUP : ¬ a_VIRTUAL_BUS = a_SUBPROGRAM_GROUP) (x_VIRTUAL_PROCESSOR_DATA : ¬ a_VIRTUAL_PROCESSOR = a_DATA) (x_VIRTUAL_PROCESSOR_SUBPROGRAM : ¬ a_VIRTUAL_PROCESSOR = a_SUBPROGRAM) (x_VIRTUAL_PROCESSOR_SUBPROGRAM_GROUP : ¬ a_VIRTUAL_PROCESSOR = a_SUBPROGRAM_GROUP) (R : Rep Z a0 n0 h (GG a_ABSTRACT a_BUS a_DATA a_DEVICE a_MEMORY a_PROCESS a_PROCESSOR a_SUBPROGRAM a_SUBPROGRAM_GROUP a_SYSTEM a_THREAD a_THREAD_GROUP a_VIRTUAL_BUS a_VIRTUAL_PROCESSOR) []) : Con l Z n0 x code maxLocals ret room_1 #[(.int p1)] h (fun v _ => v = some (.int 1)) := by
  refine Con.mk (Ls := #[.val (.int p1), .unset, .unset]) pn_law (ef0_i p1) ?_
  intro p e s m below meth c A hret hlk hnm
  have K : Keep h h [] := Keep.refl _ _
  refine Goes.blk A _ b0_0_1 (pc' := 1) (Ls' := #[.val (.int p1), .unset, .unset]) (st' := [(.int p1)]) rfl ?_
  refine Goes.ldcI A (hw _ (List.mem_of_getElem? (i := 0) rfl)) at_1 ?_
  refine Goes.blk A _ b0_3_2 (pc' := 6) (Ls' := #[.val (.int p1), .unset, .unset]) (st' := [(.int (14 : Int32)), (.int (p1 &&& (2147483647 : Int32)))]) rfl ?_
  refine Goes.irem A at_6 (by decide) ?_
  refine Goes.blk A _ b0_7_2 (pc' := 10) (Ls' := #[.val (.int p1), .val (.int ((p1 &&& (2147483647 : Int32)) % (14 : Int32))), .unset]) (st' := [(.int (14 : Int32))]) rfl ?_
  refine Goes.newArr A (hw _ (List.mem_of_getElem? (i := 1) rfl)) R K Z0 at_10 (k := 14) (by decide) (cap := 14) (by decide) (by decide) (by decide) (by decide) (fun b1 h2 s2 t2 K2 R2 => ?_)
  replace R2 : Rep Z a0 n0 h2 (GG a_ABSTRACT a_BUS a_DATA a_DEVICE a_MEMORY a_PROCESS a_PROCESSOR a_SUBPROGRAM a_SUBPROGRAM_GROUP a_SYSTEM a_THREAD a_THREAD_GROUP a_VIRTUAL_BUS a_VIRTUAL_PROCESSOR) [(b1, true, .inr (.boolean, [(.int (0 : Int32)), (.int (0 : Int32)), (.int (0 : Int32)), (.int (0 : Int32)), (.int (0 : Int32)), (.int (0 : Int32)), (.int (0 : Int32)), (.int (0 : Int32)), (.int (0 : Int32)), (.int (0 : Int32)), (.int (0 : Int32)), (.int (0 : Int32)), (.int (0 : Int32)), (.int (0 : Int32))]))] := R2
  show Goes p l e _ s m _ below meth c n0 _ h2 1 14 12 #[.val (.int p1), .val (.int ((p1 &&& (2147483647 : Int32)) % (14 : Int32))), .unset] [(.ref b1)]
  refine Goes.blk A _ b0_12_3 (pc' := 15) (Ls' := #[.val (.int p1), .val (.int ((p1 &&& (2147483647 : Int32)) % (14 : Int32))), .unset]) (st' := [(.int (1 : Int32)), (.int (0 : Int32)), (.ref b1), (.ref b1)]) rfl ?_
  refine Goes.zastore A R2 K2 (i := 0) rfl (Or.inr s2) (k := 0) (by decide) (Nat.le_of_ble_eq_true rfl) at_15 (fun h3 K3 R3 => ?_)
  replace R3 : Rep Z a0 n0 h3 (GG a_ABSTRACT a_BUS a_DATA a_DEVICE a_MEMORY a_PROCESS a_PROCESSOR a_SUBPROGRAM a_SUBPROGRAM_GROUP a_SYSTEM a_THREAD a_THREAD_GROUP a_VIRTUAL_BUS a_VIRTUAL_PROCESSOR) [(b1, true, .inr (.boolean, [(.int (1 : Int32)), (.int (0 : Int32)), (.int (0 : Int32)), (.int (0 : Int32)), (.int (0 : Int32)), (.int (0 : Int32)), (.int (0 : Int32)), (.int (0 : Int32)), (.int (0 : Int32)), (.int (0 : Int32)), (.int (0 : Int32)), (.int (0 : Int32)), (.int (0 : Int32)), (.int (0 : Int32))]))] := R3
  refine Goes.blk A _ b0_16_3 (pc' := 19) (Ls' := #[.val (.int p1), .val (.int ((p1 &&& (2147483647 : Int32)) % (14 : Int32))), .unset]) (st' := [(.int (1 : Int32)), (.int (1 : Int32)), (.ref b1), (.ref b1)]) rfl ?_
  refine Goes.zastore A R3 K3 (i := 0) rfl (Or.inr s2) (k := 1) (by decide) (Nat.le_of_ble_eq_true rfl) at_19 (fun h4 K4 R4 => ?_)
  replace R4 : Rep Z a0 n0 h4 (GG a_ABSTRACT a_BUS a_DATA a_DEVICE a_MEMORY a_PROCESS a_PROCESSOR a_SUBPROGRAM a_SUBPROGRAM_GROUP a_SYSTEM a_THREAD a_THREAD_GROUP a_VIRTUAL_BUS a_VIRTUAL_PROCESSOR) [(b1, true, .inr (.boolean, [(.int (1 : Int32)), (.int (1 : Int32)), (.int (0 : Int32)), (.int (0 : Int32)), (.int (0 : Int32)), (.int (0 : Int32)), (.int (0 : Int32)), (.int (0 : Int32)), (.int (0 : Int32)), (.int (0 : Int32)), (.int (0 : Int32)), (.int (0 : Int32)), (.int (0 : Int32)), (.int (0 : Int32))]))] := R4
  refine Goes.blk A _ b0_20_3 (pc' := 23) (Ls' := #[.val (.int p1), .val (.int ((p1 &&& (2147483647 : Int32)) % (14 : Int32))), .unset]) (st' := [(.int (0 : Int32)), (.int (2 : Int32)), (.ref b1), (.ref b1)]) rfl ?_
  refine Goes.zastore A R4 K4 (i := 0) rfl (Or.inr s2) (k := 2) (by decide) (Nat.le_of_ble_eq_true rfl) at_23 (fun h5 K5 R5 => ?_)
  replace R5 : Rep Z a0 n0 h5 (GG a_ABSTRACT a_BUS a_DATA a_DEVICE a_MEMORY a_PROCESS a_PROCESSOR a_SUBPROGRAM a_SUBPROGRAM_GROUP a_SYSTEM a_THREAD a_THREAD_GROUP a_VIRTUAL_BUS a_VIRTUAL_PROCESSOR) [(b1, true, .inr (.boolean, [(.int (1 : Int32)), (.int (1 : Int32)), (.int (0 : Int32)), (.int (0 : Int32)), (.int (0 : Int32)), (.int (0 : Int32)), (.int (0 : Int32)), (.int (0 : Int32)), (.int (0 : Int32)), (.int (0 : Int32)), (.int (0 : Int32)), (.int (0 : Int32)), (.int (0 : Int32)), (.int (0 : Int32))]))] := R5
  refine Goes.blk A _ b0_24_3 (pc' := 27) (Ls' := #[.val (.int p1), .val (.int ((p1 &&& (2147483647 : Int32)) % (14 : Int32))), .unset]) (st' := [(.int (1 : Int32)), (.int (3 : Int32)), (.ref b1), (.ref b1)]) rfl ?_
  refine Goes.zastore A R5 K5 (i := 0) rfl (Or.inr s2) (k := 3) (by decide) (Nat.le_of_ble_eq_true rfl) at_27 (fun h6 K6 R6 => ?_)
  replace R6 : Rep Z a0 n0 h6 (GG a_ABSTRACT a_BUS a_DATA a_DEVICE a_MEMORY a_PROCESS a_PROCESSOR a_SUBPROGRAM a_SUBPROGRAM_GROUP a_SYSTEM a_THREAD a_THREAD_GROUP a_VIRTUAL_BUS a_VIRTUAL_PROCESSOR) [(b1, true, .inr (.boolean, [(.int (1 : Int32)), (.int (1 : Int32)), (.int (0 : Int32)), (.int (1 : Int32)), (.int (0 : Int32)), (.int (0 : Int32)), (.int (0 : Int32)), (.int (0 : Int32)), (.int (0 : Int32)), (.int (0 : Int32)), (.int (0 : Int32)), (.int (0 : Int32)), (.int (0 : Int32)), (.int (0 : Int32))]))] := R6
  refine Goes.blk A _ b0_28_3 (pc' := 31) (Ls' := #[.val (.int p1), .val (.int ((p1 &&& (2147483647 : Int32)) % (14 : Int32))), .unset]) (st' := [(.int (1 : Int32)), (.int (4 : Int32)), (.ref b1), (.ref b1)]) rfl ?_
  refine Goes.zastore A R6 K6 (i := 0) rfl (Or.inr s2) (k := 4) (by decide) (Nat.le_of_ble_eq_true rfl) at_31 (fun h7 K7 R7 => ?_)
  replace R7 : Rep Z a0 n0 h7 (GG a_ABSTRACT a_BUS a_DATA a_DEVICE a_MEMORY a_PROCESS a_PROCESSOR a_SUBPROGRAM a_SUBPROGRAM_GROUP a_SYSTEM a_THREAD a_THREAD_GROUP a_VIRTUAL_BUS a_VIRTUAL_PROCESSOR) [(b1, true, .inr (.boolean, [(.int (1 : Int32)), (.int (1 : Int32)), (.int (0 : Int32)), (.int (1 : Int32)), (.int (1 : Int32)), (.int (0 : Int32)), (.int (0 : Int32)), (.int (0 : Int32)), (.int (0 : Int32)), (.int (0 : Int32)), (.int (0 : Int32)), (.int (0 : Int32)), (.int (0 : Int32)), (.int (0 : Int32))]))] := R7
  refine Goes.blk A _ b0_32_3 (pc' := 35) (Ls' := #[.val (.int p1), .val (.int ((p1 &&& (2147483647 : Int32)) % (14 : Int32))), .unset]) (st' := [(.int (1 : Int32)), (.int (5 : Int32)), (.ref b1), (.ref b1)]) rfl ?_
  refine Goes.zastore A R7 K7 (i := 0) rfl (Or.inr s2) (k := 5) (by decide) (Nat.le_of_ble_eq_true rfl) at_35 (fun h8 K8 R8 => ?_)
  replace R8 : Rep Z a0 n0 h8 (GG a_ABSTRACT a_BUS a_DATA a_DEVICE a_MEMORY a_PROCESS a_PROCESSOR a_SUBPROGRAM a_SUBPROGRAM_GROUP a_SYSTEM a_THREAD a_THREAD_GROUP a_VIRTUAL_BUS a_VIRTUAL_PROCESSOR) [(b1, true, .inr (.boolean, [(.int (1 : Int32)), (.int (1 : Int32)), (.int (0 : Int32)), (.int (1 : Int32)), (.int (1 : Int32)), (.int (1 : Int32)), (.int (0 : Int32)), (.int (0 : Int32)), (.int (0 : Int32)), (.int (0 : Int32)), (.int (0 : Int32)), (.int (0 : Int32)), (.int (0 : Int32)), (.int (0 : Int32))]))] := R8
  refine Goes.blk A _ b0_36_3 (pc' := 40) (Ls' := #[.val (.int p1), .val (.int ((p1 &&& (2147483647 : Int32)) % (14 : Int32))), .unset]) (st' := [(.int (1 : Int32)), (.int (6 : Int32)), (.ref b1), (.ref b1)]) rfl ?_
  refine Goes.zastore A R8 K8 (i := 0) rfl (Or.inr s2) (k := 6) (by decide) (Nat.le_of_ble_eq_true rfl) at_40 (fun h9 K9 R9 => ?_)
  replace R9 : Rep Z a0 n0 h9 (GG a_ABSTRACT a_BUS a_DATA a_DEVICE a_MEMORY a_PROCESS a_PROCESSOR a_SUBPROGRAM a_SUBPROGRAM_GROUP a_SYSTEM a_THREAD a_THREAD_GROUP a_VIRTUAL_BUS a_VIRTUAL_PROCESSOR) [(b1, true, .inr (.boolean, [(.int (1 : Int32)), (.int (1 : Int32)), (.int (0 : Int32)), (.int (1 : Int32)), (.int (1 : Int32)), (.int (1 : Int32)), (.int (1 : Int32)), (.int (0 : Int32)), (.int (0 : Int32)), (.int (0 : Int32)), (.int (0 : Int32)), (.int (0 : Int32)), (.int (0 : Int32)), (.int (0 : Int32))]))] := R9
  refine Goes.blk A _ b0_41_3 (pc' := 45) (Ls' := #[.val (.int p1), .val (.int ((p1 &&& (2147483647 : Int32)) % (14 : Int32))), .unset]) (st' := [(.int (0 : Int32)), (.int (7 : Int32)), (.ref b1), (.ref b1)]) rfl ?_
  refine Goes.zastore A R9 K9 (i := 0) rfl (Or.inr s2) (k := 7) (by decide) (Nat.le_of_ble_eq_true rfl) at_45 (fun h10 K10 R10 => ?_)
  replace R10 : Rep Z a0 n0 h10 (GG a_ABSTRACT a_BUS a_DATA a_DEVICE a_MEMORY a_PROCESS a_PROCESSOR a_SUBPROGRAM a_SUBPROGRAM_GROUP a_SYSTEM a_THREAD a_THREAD_GROUP a_VIRTUAL_BUS a_VIRTUAL_PROCESSOR) [(b1, true, .inr (.boolean, [(.int (1 : Int32)), (.int (1 : Int32)), (.int (0 : Int32)), (.int (1 : Int32)), (.int (1 : Int32)), (.int (1 : Int32)), (.int (1 : Int32)), (.int (0 : Int32)), (.int (0 : Int32)), (.int (0 : Int32)), (.int (0 : Int32)), (.int (0 : Int32)), (.int (0 : Int32)), (.int (0 : Int32))]))] := R10
  refine Goes.blk A _ b0_46_3 (pc' := 50) (Ls' := #[.val (.int p1), .val (.int ((p1 &&& (2147483647 : Int32)) % (14 : Int32))), .unset]) (st' := [(.int (0 : Int32)), (.int (8 : Int32)), (.ref b1), (.ref b1)]) rfl ?_
  refine Goes.zastore A R10 K10 (i := 0) rfl (Or.inr s2) (k := 8) (by decide) (Nat.le_of_ble_eq_true rfl) at_50 (fun h11 K11 R11 => ?_)
  replace R11 : Rep Z a0 n0 h11 (GG a_ABSTRACT a_BUS a_DATA a_DEVICE a_MEMORY a_PROCESS a_PROCESSOR a_SUBPROGRAM a_SUBPROGRAM_GROUP a_SYSTEM a_THREAD a_THREAD_GROUP a_VIRTUAL_BUS a_VIRTUAL_PROCESSOR) [(b1, true, .inr (.boolean, [(.int (1 : Int32)), (.int (1 : Int32)), (.int (0 : Int32)), (.int (1 : Int32)), (.int (1 : Int32)), (.int (1 : Int32)), (.int (1 : Int32)), (.int (0 : Int32)), (.int (0 : Int32)), (.int (0 : Int32)), (.int (0 : Int32)), (.int (0 : Int32)), (.int (0 : Int32)), (.int (0 : Int32))]))] := R11
  refine Goes.blk A _ b0_51_3 (pc' := 55) (Ls' := #[.val (.int p1), .val (.int ((p1 &&& (2147483647 : Int32)) % (14 : Int32))), .unset]) (st' := [(.int (1 : Int32)), (.int (9 : Int32)), (.ref b1), (.ref b1)]) rfl ?_
  refine Goes.zastore A R11 K11 (i := 0) rfl (Or.inr s2) (k := 9) (by decide) (Nat.le_of_ble_eq_true rfl) at_55 (fun h12 K12 R12 => ?_)
  replace R12 : Rep Z a0 n0 h12 (GG a_ABSTRACT a_BUS a_DATA a_DEVICE a_MEMORY a_PROCESS a_PROCESSOR a_SUBPROGRAM a_SUBPROGRAM_GROUP a_SYSTEM a_THREAD a_THREAD_GROUP a_VIRTUAL_BUS a_VIRTUAL_PROCESSOR) [(b1, true, .inr (.boolean, [(.int (1 : Int32)), (.int (1 : Int32)), (.int (0 : Int32)), (.int (1 : Int32)), (.int (1 : Int32)), (.int (1 : Int32)), (.int (1 : Int32)), (.int (0 : Int32)), (.int (0 : Int32)), (.int (1 : Int32)), (.int (0 : Int32)), (.int (0 : Int32)), (.int (0 : Int32)), (.int (0 : Int32))]))] := R12
  refine Goes.blk A _ b0_56_3 (pc' := 60) (Ls' := #[.val (.int p1), .val (.int ((p1 &&& (2147483647 : Int32)) % (14 : Int32))), .unset]) (st' := [(.int (1 : Int32)), (.int (10 : Int32)), (.ref b1), (.ref b1)]) rfl ?_
  refine Goes.zastore A R12 K12 (i := 0) rfl (Or.inr s2) (k := 10) (by decide) (Nat.le_of_ble_eq_true rfl) at_60 (fun h13 K13 R13 => ?_)
  replace R13 : Rep Z a0 n0 h13 (GG a_ABSTRACT a_BUS a_DATA a_DEVICE a_MEMORY a_PROCESS a_PROCESSOR a_SUBPROGRAM a_SUBPROGRAM_GROUP a_SYSTEM a_THREAD a_THREAD_GROUP a_VIRTUAL_BUS a_VIRTUAL_PROCESSOR) [(b1, true, .inr (.boolean, [(.int (1 : Int32)), (.int (1 : Int32)), (.int (0 : Int32)), (.int (1 : Int32)), (.int (1 : Int32)), (.int (1 : Int32)), (.int (1 : Int32)), (.int (0 : Int32)), (.int (0 : Int32)), (.int (1 : Int32)), (.int (1 : Int32)), (.int (0 : Int32)), (.int (0 : Int32)), (.int (0 : Int32))]))] := R13
  refine Goes.blk A _ b0_61_3 (pc' := 65) (Ls' := #[.val (.int p1), .val (.int ((p1 &&& (2147483647 : Int32)) % (14 : Int32))), .unset]) (st' := [(.int (1 : Int32)), (.int (11 : Int32)), (.ref b1), (.ref b1)]) rfl ?_
  refine Goes.zastore A R13 K13 (i := 0) rfl (Or.inr s2) (k := 11) (by decide) (Nat.le_of_ble_eq_true rfl) at_65 (fun h14 K14 R14 => ?_)
  replace R14 : Rep Z a0 n0 h14 (GG a_ABSTRACT a_BUS a_DATA a_DEVICE a_MEMORY a_PROCESS a_PROCESSOR a_SUBPROGRAM a_SUBPROGRAM_GROUP a_SYSTEM a_THREAD a_THREAD_GROUP a_VIRTUAL_BUS a_VIRTUAL_PROCESSOR) [(b1, true, .inr (.boolean, [(.int (1 : Int32)), (.int (1 : Int32)), (.int (0 : Int32)), (.int (1 : Int32)), (.int (1 : Int32)), (.int (1 : Int32)), (.int (1 : Int32)), (.int (0 : Int32)), (.int (0 : Int32)), (.int (1 : Int32)), (.int (1 : Int32)), (.int (1 : Int32)), (.int (0 : Int32)), (.int (0 : Int32))]))] := R14
  refine Goes.blk A _ b0_66_3 (pc' := 70) (Ls' := #[.val (.int p1), .val (.int ((p1 &&& (2147483647 : Int32)) % (14 : Int32))), .unset]) (st' := [(.int (1 : Int32)), (.int (12 : Int32)), (.ref b1), (.ref b1)]) rfl ?_
  refine Goes.zastore A R14 K14 (i := 0) rfl (Or.inr s2) (k := 12) (by decide) (Nat.le_of_ble_eq_true rfl) at_70 (fun h15 K15 R15 => ?_)
  replace R15 : Rep Z a0 n0 h15 (GG a_ABSTRACT a_BUS a_DATA a_DEVICE a_MEMORY a_PROCESS a_PROCESSOR a_SUBPROGRAM a_SUBPROGRAM_GROUP a_SYSTEM a_THREAD a_THREAD_GROUP a_VIRTUAL_BUS a_VIRTUAL_PROCESSOR) [(b1, true, .inr (.boolean, [(.int (1 : Int32)), (.int (1 : Int32)), (.int (0 : Int32)), (.int (1 : Int32)), (.int (1 : Int32)), (.int (1 : Int32)), (.int (1 : Int32)), (.int (0 : Int32)), (.int (0 : Int32)), (.int (1 : Int32)), (.int (1 : Int32)), (.int (1 : Int32)), (.int (1 : Int32)), (.int (0 : Int32))]))] := R15
  refine Goes.blk A _ b0_71_3 (pc' := 75) (Ls' := #[.val (.int p1), .val (.int ((p1 &&& (2147483647 : Int32)) % (14 : Int32))), .unset]) (st' := [(.int (1 : Int32)), (.int (13 : Int32)), (.ref b1), (.ref b1)]) rfl ?_
  refine Goes.zastore A R15 K15 (i := 0) rfl (Or.inr s2) (k := 13) (by decide) (Nat.le_of_ble_eq_true rfl) at_75 (fun h16 K16 R16 => ?_)
  replace R16 : Rep Z a0 n0 h16 (GG a_ABSTRACT a_BUS a_DATA a_DEVICE a_MEMORY a_PROCESS a_PROCESSOR a_SUBPROGRAM a_SUBPROGRAM_GROUP a_SYSTEM a_THREAD a_THREAD_GROUP a_VIRTUAL_BUS a_VIRTUAL_PROCESSOR) [(b1, true, .inr (.boolean, [(.int (1 : Int32)), (.int (1 : Int32)), (.int (0 : Int32)), (.int (1 : Int32)), (.int (1 : Int32)), (.int (1 : Int32)), (.int (1 : Int32)), (.int (0 : Int32)), (.int (0 : Int32)), (.int (1 : Int32)), (.int (1 : Int32)), (.int (1 : Int32)), (.int (1 : Int32)), (.int (1 : Int32))]))] := R16
  refine Goes.blk A _ b0_76_2 (pc' := 78) (Ls' := #[.val (.int p1), .val (.int ((p1 &&& (2147483647 : Int32)) % (14 : Int32))), .val (.ref b1)]) (st' := [(.int ((p1 &&& (2147483647 : Int32)) % (14 : Int32)))]) rfl ?_
  rcases own_c14 (by decide) (own_rem p1 14 (by decide)) with r1 | r1 | r1 | r1 | r1 | r1 | r1 | r1 | r1 | r1 | r1 | r1 | r1 | r1
  · skip
    rw [r1]
    refine Goes.static A (hw _ (List.mem_of_getElem? (i := 2) rfl)) (hw _ (List.mem_of_getElem? (i := 3) rfl)) (hw _ (List.mem_of_getElem? (i := 4) rfl)) (hw _ (List.mem_of_getElem? (i := 5) rfl)) at_78 pd_412537 (by decide) (argsL := [(.int (0 : Int32))]) (rest := []) rfl rfl rfl (W := 0) (Nat.le_of_ble_eq_true rfl) (by decide) (by decide) (by decide) (by decide) (kp0 l Z n0 a0 hw h16 a_ABSTRACT (R16.sta (i := 0) rfl)) (fun v hq hh => ?_)
    obtain ⟨rfl, rfl⟩ := hh
    show Goes p l e _ s m _ below meth c n0 _ h16 1 14 81 #[.val (.int p1), .val (.int (0 : Int32)), .val (.ref b1)] [(.ref a_ABSTRACT)]
    refine Goes.virt A (hw _ (List.mem_of_getElem? (i := 9) rfl)) (hw _ (List.mem_of_getElem? (i := 10) rfl)) (hw _ (List.mem_of_getElem? (i := 12) rfl)) (hw _ (List.mem_of_getElem? (i := 12) rfl)) (hw _ (List.mem_of_getElem? (i := 11) rfl)) (hw _ (List.mem_of_getElem? (i := 7) rfl)) (hw _ (List.mem_of_getElem? (i := 13) rfl)) at_81 pd_248338 (by decide) (E_ABSTRACT.keep K16) (argsL := []) (rest := []) rfl rfl rfl (W := 0) (Nat.le_of_ble_eq_true rfl) (by decide) (by decide) (by decide) (by decide) (ks l Z n0 a0 hw h16 a_ABSTRACT a_DATA a_SUBPROGRAM a_SUBPROGRAM_GROUP 1 (by simp [x_ABSTRACT_DATA, x_ABSTRACT_SUBPROGRAM, x_ABSTRACT_SUBPROGRAM_GROUP]) (R16.sta (i := 2) rfl) (R16.sta (i := 7) rfl) (R16.sta (i := 8) rfl)) (fun v hq hh => ?_)
    obtain ⟨rfl, rfl⟩ := hh
    show Goes p l e _ s m _ below meth c n0 _ h16 1 14 84 #[.val (.int p1), .val (.int (0 : Int32)), .val (.ref b1)] [(.int (1 : Int32))]
    refine Goes.blk A _ b0_84_2 (pc' := 86) (Ls' := #[.val (.int p1), .val (.int (0 : Int32)), .val (.ref b1)]) (st' := [(.int (0 : Int32)), (.ref b1), (.int (1 : Int32))]) rfl ?_
    refine Goes.zaload A R16 (i := 0) rfl (k := 0) (by decide) rfl at_86 ?_
    refine Goes.if2 A at_87 (by decide) (pc' := 94) (by decide) (fun hc => absurd hc (cP_f (by decide))) (fun hc17 => ?_)
    refine Goes.blk A _ b0_90_1 (pc' := 91) (Ls' := #[.val (.int p1), .val (.int (0 : Int32)), .val (.ref b1)]) (st' := [(.int (1 : Int32))]) rfl ?_
    refine Goes.jump A at_91 (by decide) (pc' := 95) (by decide) ?_
    exact Goes.retB A hret (by simp) hlk at_95 (z' := 1) (by decide) (by decide) (by decide) rfl
  · skip
    rw [r1]
    refine Goes.static A (hw _ (List.mem_of_getElem? (i := 2) rfl)) (hw _ (List.mem_of_getElem? (i := 3) rfl)) (hw _ (List.mem_of_getElem? (i := 4) rfl)) (hw _ (List.mem_of_getElem? (i := 5) rfl)) at_78 pd_412537 (by decide) (argsL := [(.int (1 : Int32))]) (rest := []) rfl rfl rfl (W := 0) (Nat.le_of_ble_eq_true rfl) (by decide) (by decide) (by decide) (by decide) (kp1 l Z n0 a0 hw h16 a_BUS (R16.sta (i := 1) rfl)) (fun v hq hh => ?_)
    obtain ⟨rfl, rfl⟩ := hh
    show Goes p l e _ s m _ below meth c n0 _ h16 1 14 81 #[.val (.int p1), .val (.int (1 : Int32)), .val (.ref b1)] [(.ref a_BUS)]
    refine Goes.virt A (hw _ (List.mem_of_getElem? (i := 9) rfl)) (hw _ (List.mem_of_getElem? (i := 10) rfl)) (hw _ (List.mem_of_getElem? (i := 12) rfl)) (hw _ (List.mem_of_getElem? (i := 12) rfl)) (hw _ (List.mem_of_getElem? (i := 11) rfl)) (hw _ (List.mem_of_getElem? (i := 7) rfl)) (hw _ (List.mem_of_getElem? (i := 13) rfl)) at_81 pd_248338 (by decide) (E_BUS.keep K16) (argsL := []) (rest := []) rfl rfl rfl (W := 0) (Nat.le_of_ble_eq_true rfl) (by decide) (by decide) (by decide) (by decide) (ks l Z n0 a0 hw h16 a_BUS a_DATA a_SUBPROGRAM a_SUBPROGRAM_GROUP 1 (by simp [x_BUS_DATA, x_BUS_SUBPROGRAM, x_BUS_SUBPROGRAM_GROUP]) (R16.sta (i := 2) rfl) (R16.sta (i := 7) rfl) (R16.sta (i := 8) rfl)) (fun v hq hh => ?_)
    obtain ⟨rfl, rfl⟩ := hh
    show Goes p l e _ s m _ below meth c n0 _ h16 1 14 84 #[.val (.int p1), .val (.int (1 : Int32)), .val (.ref b1)] [(.int (1 : Int32))]
    refine Goes.blk A _ b0_84_2 (pc' := 86) (Ls' := #[.val (.int p1), .val (.int (1 : Int32)), .val (.ref b1)]) (st' := [(.int (1 : Int32)), (.ref b1), (.int (1 : Int32))]) rfl ?_
    refine Goes.zaload A R16 (i := 0) rfl (k := 1) (by decide) rfl at_86 ?_
    refine Goes.if2 A at_87 (by decide) (pc' := 94) (by decide) (fun hc => absurd hc (cP_f (by decide))) (fun hc18 => ?_)
    refine Goes.blk A _ b0_90_1 (pc' := 91) (Ls' := #[.val (.int p1), .val (.int (1 : Int32)), .val (.ref b1)]) (st' := [(.int (1 : Int32))]) rfl ?_
    refine Goes.jump A at_91 (by decide) (pc' := 95) (by decide) ?_
    exact Goes.retB A hret (by simp) hlk at_95 (z' := 1) (by decide) (by decide) (by decide) rfl
  · skip
    rw [r1]
    refine Goes.static A (hw _ (List.mem_of_getElem? (i := 2) rfl)) (hw _ (List.mem_of_getElem? (i := 3) rfl)) (hw _ (List.mem_of_getElem? (i := 4) rfl)) (hw _ (List.mem_of_getElem? (i := 5) rfl)) at_78 pd_412537 (by decide) (argsL := [(.int (2 : Int32))]) (rest := []) rfl rfl rfl (W := 0) (Nat.le_of_ble_eq_true rfl) (by decide) (by decide) (by decide) (by decide) (kp2 l Z n0 a0 hw h16 a_DATA (R16.sta (i := 2) rfl)) (fun v hq hh => ?_)
    obtain ⟨rfl, rfl⟩ := hh
    show Goes p l e _ s m _ below meth c n0 _ h16 1 14 81 #[.val (.int p1), .val (.int (2 : Int32)), .val (.ref b1)] [(.ref a_DATA)]
    refine Goes.virt A (hw _ (List.mem_of_getElem? (i := 9) rfl)) (hw _ (List.mem_of_getElem? (i := 10) rfl)) (hw _ (List.mem_of_getElem? (i := 12) rfl)) (hw _ (List.mem_of_getElem? (i := 12) rfl)) (hw _ (List.mem_of_getElem? (i := 11) rfl)) (hw _ (List.mem_of_getElem? (i := 7) rfl)) (hw _ (List.mem_of_getElem? (i := 13) rfl)) at_81 pd_248338 (by decide) (E_DATA.keep K16) (argsL := []) (rest := []) rfl rfl rfl (W := 0) (Nat.le_of_ble_eq_true rfl) (by decide) (by decide) (by decide) (by decide) (ks l Z n0 a0 hw h16 a_DATA a_DATA a_SUBPROGRAM a_SUBPROGRAM_GROUP 0 (by simp) (R16.sta (i := 2) rfl) (R16.sta (i := 7) rfl) (R16.sta (i := 8) rfl)) (fun v hq hh => ?_)
    obtain ⟨rfl, rfl⟩ := hh
    show Goes p l e _ s m _ below meth c n0 _ h16 1 14 84 #[.val (.int p1), .val (.int (2 : Int32)), .val (.ref b1)] [(.int (0 : Int32))]
    refine Goes.blk A _ b0_84_2 (pc' := 86) (Ls' := #[.val (.int p1), .val (.int (2 : Int32)), .val (.ref b1)]) (st' := [(.int (2 : Int32)), (.ref b1), (.int (0 : Int32))]) rfl ?_
    refine Goes.zaload A R16 (i := 0) rfl (k := 2) (by decide) rfl at_86 ?_
    refine Goes.if2 A at_87 (by decide) (pc' := 94) (by decide) (fun hc => absurd hc (cP_f (by decide))) (fun hc19 => ?_)
    refine Goes.blk A _ b0_90_1 (pc' := 91) (Ls' := #[.val (.int p1), .val (.int (2 : Int32)), .val (.ref b1)]) (st' := [(.int (1 : Int32))]) rfl ?_
    refine Goes.jump A at_91 (by decide) (pc' := 95) (by decide) ?_
    exact Goes.retB A hret (by simp) hlk at_95 (z' := 1) (by decide) (by decide) (by decide) rfl
  · skip
    rw [r1]
    refine Goes.static A (hw _ (List.mem_of_getElem? (i := 2) rfl)) (hw _ (List.mem_of_getElem? (i := 3) rfl)) (hw _ (List.mem_of_getElem? (i := 4) rfl)) (hw _ (List.mem_of_getElem? (i := 5) rfl)) at_78 pd_412537 (by decide) (argsL := [(.int (3 : Int32))]) (rest := []) rfl rfl rfl (W := 0) (Nat.le_of_ble_eq_true rfl) (by decide) (by decide) (by decide) (by decide) (kp3 l Z n0 a0 hw h16 a_DEVICE (R16.sta (i := 3) rfl)) (fun v hq hh => ?_)
    obtain ⟨rfl, rfl⟩ := hh
    show Goes p l e _ s m _ below meth c n0 _ h16 1 14 81 #[.val (.int p1), .val (.int (3 : Int32)), .val (.ref b1)] [(.ref a_DEVICE)]
    refine Goes.virt A (hw _ (List.mem_of_getElem? (i := 9) rfl)) (hw _ (List.mem_of_getElem? (i := 10) rfl)) (hw _ (List.mem_of_getElem? (i := 12) rfl)) (hw _ (List.mem_of_getElem? (i := 12) rfl)) (hw _ (List.mem_of_getElem? (i := 11) rfl)) (hw _ (List.mem_of_getElem? (i := 7) rfl)) (hw _ (List.mem_of_getElem? (i := 13) rfl)) at_81 pd_248338 (by decide) (E_DEVICE.keep K16) (argsL := []) (rest := []) rfl rfl rfl (W := 0) (Nat.le_of_ble_eq_true rfl) (by decide) (by decide) (by decide) (by decide) (ks l Z n0 a0 hw h16 a_DEVICE a_DATA a_SUBPROGRAM a_SUBPROGRAM_GROUP 1 (by simp [x_DEVICE_DATA, x_DEVICE_SUBPROGRAM, x_DEVICE_SUBPROGRAM_GROUP]) (R16.sta (i := 2) rfl) (R16.sta (i := 7) rfl) (R16.sta (i := 8) rfl)) (fun v hq hh => ?_)
    obtain ⟨rfl, rfl⟩ := hh
    show Goes p l e _ s m _ below meth c n0 _ h16 1 14 84 #[.val (.int p1), .val (.int (3 : Int32)), .val (.ref b1)] [(.int (1 : Int32))]
    refine Goes.blk A _ b0_84_2 (pc' := 86) (Ls' := #[.val (.int p1), .val (.int (3 : Int32)), .val (.ref b1)]) (st' := [(.int (3 : Int32)), (.ref b1), (.int (1 : Int32))]) rfl ?_
    refine Goes.zaload A R16 (i := 0) rfl (k := 3) (by decide) rfl at_86 ?_
    refine Goes.if2 A at_87 (by decide) (pc' := 94) (by decide) (fun hc => absurd hc (cP_f (by decide))) (fun hc20 => ?_)
    refine Goes.blk A _ b0_90_1 (pc' := 91) (Ls' := #[.val (.int p1), .val (.int (3 : Int32)), .val (.ref b1)]) (st' := [(.int (1 : Int32))]) rfl ?_
    refine Goes.jump A at_91 (by decide) (pc' := 95) (by decide) ?_
    exact Goes.retB A hret (by simp) hlk at_95 (z' := 1) (by decide) (by decide) (by decide) rfl
  · skip
    rw [r1]
    refine Goes.static A (hw _ (List.mem_of_getElem? (i := 2) rfl)) (hw _ (List.mem_of_getElem? (i := 3) rfl)) (hw _ (List.mem_of_getElem? (i := 4) rfl)) (hw _ (List.mem_of_getElem? (i := 5) rfl)) at_78 pd_412537 (by decide) (argsL := [(.int (4 : Int32))]) (rest := []) rfl rfl rfl (W := 0) (Nat.le_of_ble_eq_true rfl) (by decide) (by decide) (by decide) (by decide) (kp4 l Z n0 a0 hw h16 a_MEMORY (R16.sta (i := 4) rfl)) (fun v hq hh => ?_)
    obtain ⟨rfl, rfl⟩ := hh
    show Goes p l e _ s m _ below meth c n0 _ h16 1 14 81 #[.val (.int p1), .val (.int (4 : Int32)), .val (.ref b1)] [(.ref a_MEMORY)]
    refine Goes.virt A (hw _ (List.mem_of_getElem? (i := 9) rfl)) (hw _ (List.mem_of_getElem? (i := 10) rfl)) (hw _ (List.mem_of_getElem? (i := 12) rfl)) (hw _ (List.mem_of_getElem? (i := 12) rfl)) (hw _ (List.mem_of_getElem? (i := 11) rfl)) (hw _ (List.mem_of_getElem? (i := 7) rfl)) (hw _ (List.mem_of_getElem? (i := 13) rfl)) at_81 pd_248338 (by decide) (E_MEMORY.keep K16) (argsL := []) (rest := []) rfl rfl rfl (W := 0) (Nat.le_of_ble_eq_true rfl) (by decide) (by decide) (by decide) (by decide) (ks l Z n0 a0 hw h16 a_MEMORY a_DATA a_SUBPROGRAM a_SUBPROGRAM_GROUP 1 (by simp [x_MEMORY_DATA, x_MEMORY_SUBPROGRAM, x_MEMORY_SUBPROGRAM_GROUP]) (R16.sta (i := 2) rfl) (R16.sta (i := 7) rfl) (R16.sta (i := 8) rfl)) (fun v hq hh => ?_)
    obtain ⟨rfl, rfl⟩ := hh
    show Goes p l e _ s m _ below meth c n0 _ h16 1 14 84 #[.val (.int p1), .val (.int (4 : Int32)), .val (.ref b1)] [(.int (1 : Int32))]
    refine Goes.blk A _ b0_84_2 (pc' := 86) (Ls' := #[.val (.int p1), .val (.int (4 : Int32)), .val (.ref b1)]) (st' := [(.int (4 : Int32)), (.ref b1), (.int (1 : Int32))]) rfl ?_
    refine Goes.zaload A R16 (i := 0) rfl (k := 4) (by decide) rfl at_86 ?_
    refine Goes.if2 A at_87 (by decide) (pc' := 94) (by decide) (fun hc => absurd hc (cP_f (by decide))) (fun hc21 => ?_)
    refine Goes.blk A _ b0_90_1 (pc' := 91) (Ls' := #[.val (.int p1), .val (.int (4 : Int32)), .val (.ref b1)]) (st' := [(.int (1 : Int32))]) rfl ?_
    refine Goes.jump A at_91 (by decide) (pc' := 95) (by decide) ?_
    exact Goes.retB A hret (by simp) hlk at_95 (z' := 1) (by decide) (by decide) (by decide) rfl
  · skip
    rw [r1]
    refine Goes.static A (hw _ (List.mem_of_getElem? (i := 2) rfl)) (hw _ (List.mem_of_getElem? (i := 3) rfl)) (hw _ (List.mem_of_getElem? (i := 4) rfl)) (hw _ (List.mem_of_getElem? (i := 5) rfl)) at_78 pd_412537 (by decide) (argsL := [(.int (5 : Int32))]) (rest := []) rfl rfl rfl (W := 0) (Nat.le_of_ble_eq_true rfl) (by decide) (by decide) (by decide) (by decide) (kp5 l Z n0 a0 hw h16 a_PROCESS (R16.sta (i := 5) rfl)) (fun v hq hh => ?_)
    obtain ⟨rfl, rfl⟩ := hh
    show Goes p l e _ s m _ below meth c n0 _ h16 1 14 81 #[.val (.int p1), .val (.int (5 : Int32)), .val (.ref b1)] [(.ref a_PROCESS)]
    refine Goes.virt A (hw _ (List.mem_of_getElem? (i := 9) rfl)) (hw _ (List.mem_of_getElem? (i := 10) rfl)) (hw _ (List.mem_of_getElem? (i := 12) rfl)) (hw _ (List.mem_of_getElem? (i := 12) rfl)) (hw _ (List.mem_of_getElem? (i := 11) rfl)) (hw _ (List.mem_of_getElem? (i := 7) rfl)) (hw _ (List.mem_of_getElem? (i := 13) rfl)) at_81 pd_248338 (by decide) (E_PROCESS.keep K16) (argsL := []) (rest := []) rfl rfl rfl (W := 0) (Nat.le_of_ble_eq_true rfl) (by decide) (by decide) (by decide) (by decide) (ks l Z n0 a0 hw h16 a_PROCESS a_DATA a_SUBPROGRAM a_SUBPROGRAM_GROUP 1 (by simp [x_PROCESS_DATA, x_PROCESS_SUBPROGRAM, x_PROCESS_SUBPROGRAM_GROUP]) (R16.sta (i := 2) rfl) (R16.sta (i := 7) rfl) (R16.sta (i := 8) rfl)) (fun v hq hh => ?_)
    obtain ⟨rfl, rfl⟩ := hh
    show Goes p l e _ s m _ below meth c n0 _ h16 1 14 84 #[.val (.int p1), .val (.int (5 : Int32)), .val (.ref b1)] [(.int (1 : Int32))]
    refine Goes.blk A _ b0_84_2 (pc' := 86) (Ls' := #[.val (.int p1), .val (.int (5 : Int32)), .val (.ref b1)]) (st' := [(.int (5 : Int32)), (.ref b1), (.int (1 : Int32))]) rfl ?_
    refine Goes.zaload A R16 (i := 0) rfl (k := 5) (by decide) rfl at_86 ?_
    refine Goes.if2 A at_87 (by decide) (pc' := 94) (by decide) (fun hc => absurd hc (cP_f (by decide))) (fun hc22 => ?_)
    refine Goes.blk A _ b0_90_1 (pc' := 91) (Ls' := #[.val (.int p1), .val (.int (5 : Int32)), .val (.ref b1)]) (st' := [(.int (1 : Int32))]) rfl ?_
    refine Goes.jump A at_91 (by decide) (pc' := 95) (by decide) ?_
    exact Goes.retB A hret (by simp) hlk at_95 (z' := 1) (by decide) (by decide) (by decide) rfl
  · skip
    rw [r1]
    refine Goes.static A (hw _ (List.mem_of_getElem? (i := 2) rfl)) (hw _ (List.mem_of_getElem? (i := 3) rfl)) (hw _ (List.mem_of_getElem? (i := 4) rfl)) (hw _ (List.mem_of_getElem? (i := 5) rfl)) at_78 pd_412537 (by decide) (argsL := [(.int (6 : Int32))]) (rest := []) rfl rfl rfl (W := 0) (Nat.le_of_ble_eq_true rfl) (by decide) (by decide) (by decide) (by decide) (kp6 l Z n0 a0 hw h16 a_PROCESSOR (R16.sta (i := 6) rfl)) (fun v hq hh => ?_)
    obtain ⟨rfl, rfl⟩ := hh
    show Goes p l e _ s m _ below meth c n0 _ h16 1 14 81 #[.val (.int p1), .val (.int (6 : Int32)), .val (.ref b1)] [(.ref a_PROCESSOR)]
    refine Goes.virt A (hw _ (List.mem_of_getElem? (i := 9) rfl)) (hw _ (List.mem_of_getElem? (i := 10) rfl)) (hw _ (List.mem_of_getElem? (i := 12) rfl)) (hw _ (List.mem_of_getElem? (i := 12) rfl)) (hw _ (List.mem_of_getElem? (i := 11) rfl)) (hw _ (List.mem_of_getElem? (i := 7) rfl)) (hw _ (List.mem_of_getElem? (i := 13) rfl)) at_81 pd_248338 (by decide) (E_PROCESSOR.keep K16) (argsL := []) (rest := []) rfl rfl rfl (W := 0) (Nat.le_of_ble_eq_true rfl) (by decide) (by decide) (by decide) (by decide) (ks l Z n0 a0 hw h16 a_PROCESSOR a_DATA a_SUBPROGRAM a_SUBPROGRAM_GROUP 1 (by simp [x_PROCESSOR_DATA, x_PROCESSOR_SUBPROGRAM, x_PROCESSOR_SUBPROGRAM_GROUP]) (R16.sta (i := 2) rfl) (R16.sta (i := 7) rfl) (R16.sta (i := 8) rfl)) (fun v hq hh => ?_)
    obtain ⟨rfl, rfl⟩ := hh
    show Goes p l e _ s m _ below meth c n0 _ h16 1 14 84 #[.val (.int p1), .val (.int (6 : Int32)), .val (.ref b1)] [(.int (1 : Int32))]
    refine Goes.blk A _ b0_84_2 (pc' := 86) (Ls' := #[.val (.int p1), .val (.int (6 : Int32)), .val (.ref b1)]) (st' := [(.int (6 : Int32)), (.ref b1), (.int (1 : Int32))]) rfl ?_
    refine Goes.zaload A R16 (i := 0) rfl (k := 6) (by decide) rfl at_86 ?_
    refine Goes.if2 A at_87 (by decide) (pc' := 94) (by decide) (fun hc => absurd hc (cP_f (by decide))) (fun hc23 => ?_)
    refine Goes.blk A _ b0_90_1 (pc' := 91) (Ls' := #[.val (.int p1), .val (.int (6 : Int32)), .val (.ref b1)]) (st' := [(.int (1 : Int32))]) rfl ?_
    refine Goes.jump A at_91 (by decide) (pc' := 95) (by decide) ?_
    exact Goes.retB A hret (by simp) hlk at_95 (z' := 1) (by decide) (by decide) (by decide) rfl
  · skip
    rw [r1]
    refine Goes.static A (hw _ (List.mem_of_getElem? (i := 2) rfl)) (hw _ (List.mem_of_getElem? (i := 3) rfl)) (hw _ (List.mem_of_getElem? (i := 4) rfl)) (hw _ (List.mem_of_getElem? (i := 5) rfl)) at_78 pd_412537 (by decide) (argsL := [(.int (7 : Int32))]) (rest := []) rfl rfl rfl (W := 0) (Nat.le_of_ble_eq_true rfl) (by decide) (by decide) (by decide) (by decide) (kp7 l Z n0 a0 hw h16 a_SUBPROGRAM (R16.sta (i := 7) rfl)) (fun v hq hh => ?_)
    obtain ⟨rfl, rfl⟩ := hh
    show Goes p l e _ s m _ below meth c n0 _ h16 1 14 81 #[.val (.int p1), .val (.int (7 : Int32)), .val (.ref b1)] [(.ref a_SUBPROGRAM)]
    refine Goes.virt A (hw _ (List.mem_of_getElem? (i := 9) rfl)) (hw _ (List.mem_of_getElem? (i := 10) rfl)) (hw _ (List.mem_of_getElem? (i := 12) rfl)) (hw _ (List.mem_of_getElem? (i := 12) rfl)) (hw _ (List.mem_of_getElem? (i := 11) rfl)) (hw _ (List.mem_of_getElem? (i := 7) rfl)) (hw _ (List.mem_of_getElem? (i := 13) rfl)) at_81 pd_248338 (by decide) (E_SUBPROGRAM.keep K16) (argsL := []) (rest := []) rfl rfl rfl (W := 0) (Nat.le_of_ble_eq_true rfl) (by decide) (by decide) (by decide) (by decide) (ks l Z n0 a0 hw h16 a_SUBPROGRAM a_DATA a_SUBPROGRAM a_SUBPROGRAM_GROUP 0 (by simp) (R16.sta (i := 2) rfl) (R16.sta (i := 7) rfl) (R16.sta (i := 8) rfl)) (fun v hq hh => ?_)
    obtain ⟨rfl, rfl⟩ := hh
    show Goes p l e _ s m _ below meth c n0 _ h16 1 14 84 #[.val (.int p1), .val (.int (7 : Int32)), .val (.ref b1)] [(.int (0 : Int32))]
    refine Goes.blk A _ b0_84_2 (pc' := 86) (Ls' := #[.val (.int p1), .val (.int (7 : Int32)), .val (.ref b1)]) (st' := [(.int (7 : Int32)), (.ref b1), (.int (0 : Int32))]) rfl ?_
    refine Goes.zaload A R16 (i := 0) rfl (k := 7) (by decide) rfl at_86 ?_
    refine Goes.if2 A at_87 (by decide) (pc' := 94) (by decide) (fun hc => absurd hc (cP_f (by decide))) (fun hc24 => ?_)
    refine Goes.blk A _ b0_90_1 (pc' := 91) (Ls' := #[.val (.int p1), .val (.int (7 : Int32)), .val (.ref b1)]) (st' := [(.int (1 : Int32))]) rfl ?_
    refine Goes.jump A at_91 (by decide) (pc' := 95) (by decide) ?_
    exact Goes.retB A hret (by simp) hlk at_95 (z' := 1) (by decide) (by decide) (by decide) rfl
  · skip
    rw [r1]
    refine Goes.static A (hw _ (List.mem_of_getElem? (i := 2) rfl)) (hw _ (List.mem_of_getElem? (i := 3) rfl)) (hw _ (List.mem_of_getElem? (i := 4) rfl)) (hw _ (List.mem_of_getElem? (i := 5) rfl)) at_78 pd_412537 (by decide) (argsL := [(.int (8 : Int32))]) (rest := []) rfl rfl rfl (W := 0) (Nat.le_of_ble_eq_true rfl) (by decide) (by decide) (by decide) (by decide) (kp8 l Z n0 a0 hw h16 a_SUBPROGRAM_GROUP (R16.sta (i := 8) rfl)) (fun v hq hh => ?_)
    obtain ⟨rfl, rfl⟩ := hh
    show Goes p l e _ s m _ below meth c n0 _ h16 1 14 81 #[.val (.int p1), .val (.int (8 : Int32)), .val (.ref b1)] [(.ref a_SUBPROGRAM_GROUP)]
    refine Goes.virt A (hw _ (List.mem_of_getElem? (i := 9) rfl)) (hw _ (List.mem_of_getElem? (i := 10) rfl)) (hw _ (List.mem_of_getElem? (i := 12) rfl)) (hw _ (List.mem_of_getElem? (i := 12) rfl)) (hw _ (List.mem_of_getElem? (i := 11) rfl)) (hw _ (List.mem_of_getElem? (i := 7) rfl)) (hw _ (List.mem_of_getElem? (i := 13) rfl)) at_81 pd_248338 (by decide) (E_SUBPROGRAM_GROUP.keep K16) (argsL := []) (rest := []) rfl rfl rfl (W := 0) (Nat.le_of_ble_eq_true rfl) (by decide) (by decide) (by decide) (by decide) (ks l Z n0 a0 hw h16 a_SUBPROGRAM_GROUP a_DATA a_SUBPROGRAM a_SUBPROGRAM_GROUP 0 (by simp) (R16.sta (i := 2) rfl) (R16.sta (i := 7) rfl) (R16.sta (i := 8) rfl)) (fun v hq hh => ?_)
    obtain ⟨rfl, rfl⟩ := hh
    show Goes p l e _ s m _ below meth c n0 _ h16 1 14 84 #[.val (.int p1), .val (.int (8 : Int32)), .val (.ref b1)] [(.int (0 : Int32))]
    refine Goes.blk A _ b0_84_2 (pc' := 86) (Ls' := #[.val (.int p1), .val (.int (8 : Int32)), .val (.ref b1)]) (st' := [(.int (8 : Int32)), (.ref b1), (.int (0 : Int32))]) rfl ?_
    refine Goes.zaload A R16 (i := 0) rfl (k := 8) (by decide) rfl at_86 ?_
    refine Goes.if2 A at_87 (by decide) (pc' := 94) (by decide) (fun hc => absurd hc (cP_f (by decide))) (fun hc25 => ?_)
    refine Goes.blk A _ b0_90_1 (pc' := 91) (Ls' := #[.val (.int p1), .val (.int (8 : Int32)), .val (.ref b1)]) (st' := [(.int (1 : Int32))]) rfl ?_
    refine Goes.jump A at_91 (by decide) (pc' := 95) (by decide) ?_
    exact Goes.retB A hret (by simp) hlk at_95 (z' := 1) (by decide) (by decide) (by decide) rfl
  · skip
    rw [r1]
    refine Goes.static A (hw _ (List.mem_of_getElem? (i := 2) rfl)) (hw _ (List.mem_of_getElem? (i := 3) rfl)) (hw _ (List.mem_of_getElem? (i := 4) rfl)) (hw _ (List.mem_of_getElem? (i := 5) rfl)) at_78 pd_412537 (by decide) (argsL := [(.int (9 : Int32))]) (rest := []) rfl rfl rfl (W := 0) (Nat.le_of_ble_eq_true rfl) (by decide) (by decide) (by decide) (by decide) (kp9 l Z n0 a0 hw h16 a_SYSTEM (R16.sta (i := 9) rfl)) (fun v hq hh => ?_)
    obtain ⟨rfl, rfl⟩ := hh
    show Goes p l e _ s m _ below meth c n0 _ h16 1 14 81 #[.val (.int p1), .val (.int (9 : Int32)), .val (.ref b1)] [(.ref a_SYSTEM)]
    refine Goes.virt A (hw _ (List.mem_of_getElem? (i := 9) rfl)) (hw _ (List.mem_of_getElem? (i := 10) rfl)) (hw _ (List.mem_of_getElem? (i := 12) rfl)) (hw _ (List.mem_of_getElem? (i := 12) rfl)) (hw _ (List.mem_of_getElem? (i := 11) rfl)) (hw _ (List.mem_of_getElem? (i := 7) rfl)) (hw _ (List.mem_of_getElem? (i := 13) rfl)) at_81 pd_248338 (by decide) (E_SYSTEM.keep K16) (argsL := []) (rest := []) rfl rfl rfl (W := 0) (Nat.le_of_ble_eq_true rfl) (by decide) (by decide) (by decide) (by decide) (ks l Z n0 a0 hw h16 a_SYSTEM a_DATA a_SUBPROGRAM a_SUBPROGRAM_GROUP 1 (by simp [x_SYSTEM_DATA, x_SYSTEM_SUBPROGRAM, x_SYSTEM_SUBPROGRAM_GROUP]) (R16.sta (i := 2) rfl) (R16.sta (i := 7) rfl) (R16.sta (i := 8) rfl)) (fun v hq hh => ?_)
    obtain ⟨rfl, rfl⟩ := hh
    show Goes p l e _ s m _ below meth c n0 _ h16 1 14 84 #[.val (.int p1), .val (.int (9 : Int32)), .val (.ref b1)] [(.int (1 : Int32))]
    refine Goes.blk A _ b0_84_2 (pc' := 86) (Ls' := #[.val (.int p1), .val (.int (9 : Int32)), .val (.ref b1)]) (st' := [(.int (9 : Int32)), (.ref b1), (.int (1 : Int32))]) rfl ?_
    refine Goes.zaload A R16 (i := 0) rfl (k := 9) (by decide) rfl at_86 ?_
    refine Goes.if2 A at_87 (by decide) (pc' := 94) (by decide) (fun hc => absurd hc (cP_f (by decide))) (fun hc26 => ?_)
    refine Goes.blk A _ b0_90_1 (pc' := 91) (Ls' := #[.val (.int p1), .val (.int (9 : Int32)), .val (.ref b1)]) (st' := [(.int (1 : Int32))]) rfl ?_
    refine Goes.jump A at_91 (by decide) (pc' := 95) (by decide) ?_
    exact Goes.retB A hret (by simp) hlk at_95 (z' := 1) (by decide) (by decide) (by decide) rfl
  · skip
    rw [r1]
    refine Goes.static A (hw _ (List.mem_of_getElem? (i := 2) rfl)) (hw _ (List.mem_of_getElem? (i := 3) rfl)) (hw _ (List.mem_of_getElem? (i := 4) rfl)) (hw _ (List.mem_of_getElem? (i := 5) rfl)) at_78 pd_412537 (by decide) (argsL := [(.int (10 : Int32))]) (rest := []) rfl rfl rfl (W := 0) (Nat.le_of_ble_eq_true rfl) (by decide) (by decide) (by decide) (by decide) (kp10 l Z n0 a0 hw h16 a_THREAD (R16.sta (i := 10) rfl)) (fun v hq hh => ?_)
    obtain ⟨rfl, rfl⟩ := hh
    show Goes p l e _ s m _ below meth c n0 _ h16 1 14 81 #[.val (.int p1), .val (.int (10 : Int32)), .val (.ref b1)] [(.ref a_THREAD)]
    refine Goes.virt A (hw _ (List.mem_of_getElem? (i := 9) rfl)) (hw _ (List.mem_of_getElem? (i := 10) rfl)) (hw _ (List.mem_of_getElem? (i := 12) rfl)) (hw _ (List.mem_of_getElem? (i := 12) rfl)) (hw _ (List.mem_of_getElem? (i := 11) rfl)) (hw _ (List.mem_of_getElem? (i := 7) rfl)) (hw _ (List.mem_of_getElem? (i := 13) rfl)) at_81 pd_248338 (by decide) (E_THREAD.keep K16) (argsL := []) (rest := []) rfl rfl rfl (W := 0) (Nat.le_of_ble_eq_true rfl) (by decide) (by decide) (by decide) (by decide) (ks l Z n0 a0 hw h16 a_THREAD a_DATA a_SUBPROGRAM a_SUBPROGRAM_GROUP 1 (by simp [x_THREAD_DATA, x_THREAD_SUBPROGRAM, x_THREAD_SUBPROGRAM_GROUP]) (R16.sta (i := 2) rfl) (R16.sta (i := 7) rfl) (R16.sta (i := 8) rfl)) (fun v hq hh => ?_)
    obtain ⟨rfl, rfl⟩ := hh
    show Goes p l e _ s m _ below meth c n0 _ h16 1 14 84 #[.val (.int p1), .val (.int (10 : Int32)), .val (.ref b1)] [(.int (1 : Int32))]
    refine Goes.blk A _ b0_84_2 (pc' := 86) (Ls' := #[.val (.int p1), .val (.int (10 : Int32)), .val (.ref b1)]) (st' := [(.int (10 : Int32)), (.ref b1), (.int (1 : Int32))]) rfl ?_
    refine Goes.zaload A R16 (i := 0) rfl (k := 10) (by decide) rfl at_86 ?_
    refine Goes.if2 A at_87 (by decide) (pc' := 94) (by decide) (fun hc => absurd hc (cP_f (by decide))) (fun hc27 => ?_)
    refine Goes.blk A _ b0_90_1 (pc' := 91) (Ls' := #[.val (.int p1), .val (.int (10 : Int32)), .val (.ref b1)]) (st' := [(.int (1 : Int32))]) rfl ?_
    refine Goes.jump A at_91 (by decide) (pc' := 95) (by decide) ?_
    exact Goes.retB A hret (by simp) hlk at_95 (z' := 1) (by decide) (by decide) (by decide) rfl
  · skip
    rw [r1]
    refine Goes.static A (hw _ (List.mem_of_getElem? (i := 2) rfl)) (hw _ (List.mem_of_getElem? (i := 3) rfl)) (hw _ (List.mem_of_getElem? (i := 4) rfl)) (hw _ (List.mem_of_getElem? (i := 5) rfl)) at_78 pd_412537 (by decide) (argsL := [(.int (11 : Int32))]) (rest := []) rfl rfl rfl (W := 0) (Nat.le_of_ble_eq_true rfl) (by decide) (by decide) (by decide) (by decide) (kp11 l Z n0 a0 hw h16 a_THREAD_GROUP (R16.sta (i := 11) rfl)) (fun v hq hh => ?_)
    obtain ⟨rfl, rfl⟩ := hh
    show Goes p l e _ s m _ below meth c n0 _ h16 1 14 81 #[.val (.int p1), .val (.int (11 : Int32)), .val (.ref b1)] [(.ref a_THREAD_GROUP)]
    refine Goes.virt A (hw _ (List.mem_of_getElem? (i := 9) rfl)) (hw _ (List.mem_of_getElem? (i := 10) rfl)) (hw _ (List.mem_of_getElem? (i := 12) rfl)) (hw _ (List.mem_of_getElem? (i := 12) rfl)) (hw _ (List.mem_of_getElem? (i := 11) rfl)) (hw _ (List.mem_of_getElem? (i := 7) rfl)) (hw _ (List.mem_of_getElem? (i := 13) rfl)) at_81 pd_248338 (by decide) (E_THREAD_GROUP.keep K16) (argsL := []) (rest := []) rfl rfl rfl (W := 0) (Nat.le_of_ble_eq_true rfl) (by decide) (by decide) (by decide) (by decide) (ks l Z n0 a0 hw h16 a_THREAD_GROUP a_DATA a_SUBPROGRAM a_SUBPROGRAM_GROUP 1 (by simp [x_THREAD_GROUP_DATA, x_THREAD_GROUP_SUBPROGRAM, x_THREAD_GROUP_SUBPROGRAM_GROUP]) (R16.sta (i := 2) rfl) (R16.sta (i := 7) rfl) (R16.sta (i := 8) rfl)) (fun v hq hh => ?_)
    obtain ⟨rfl, rfl⟩ := hh
    show Goes p l e _ s m _ below meth c n0 _ h16 1 14 84 #[.val (.int p1), .val (.int (11 : Int32)), .val (.ref b1)] [(.int (1 : Int32))]
    refine Goes.blk A _ b0_84_2 (pc' := 86) (Ls' := #[.val (.int p1), .val (.int (11 : Int32)), .val (.ref b1)]) (st' := [(.int (11 : Int32)), (.ref b1), (.int (1 : Int32))]) rfl ?_
    refine Goes.zaload A R16 (i := 0) rfl (k := 11) (by decide) rfl at_86 ?_
    refine Goes.if2 A at_87 (by decide) (pc' := 94) (by decide) (fun hc => absurd hc (cP_f (by decide))) (fun hc28 => ?_)
    refine Goes.blk A _ b0_90_1 (pc' := 91) (Ls' := #[.val (.int p1), .val (.int (11 : Int32)), .val (.ref b1)]) (st' := [(.int (1 : Int32))]) rfl ?_
    refine Goes.jump A at_91 (by decide) (pc' := 95) (by decide) ?_
    exact Goes.retB A hret (by simp) hlk at_95 (z' := 1) (by decide) (by decide) (by decide) rfl
  · skip
    rw [r1]
    refine Goes.static A (hw _ (List.mem_of_getElem? (i := 2) rfl)) (hw _ (List.mem_of_getElem? (i := 3) rfl)) (hw _ (List.mem_of_getElem? (i := 4) rfl)) (hw _ (List.mem_of_getElem? (i := 5) rfl)) at_78 pd_412537 (by decide) (argsL := [(.int (12 : Int32))]) (rest := []) rfl rfl rfl (W := 0) (Nat.le_of_ble_eq_true rfl) (by decide) (by decide) (by decide) (by decide) (kp12 l Z n0 a0 hw h16 a_VIRTUAL_BUS (R16.sta (i := 12) rfl)) (fun v hq hh => ?_)
    obtain ⟨rfl, rfl⟩ := hh
    show Goes p l e _ s m _ below meth c n0 _ h16 1 14 81 #[.val (.int p1), .val (.int (12 : Int32)), .val (.ref b1)] [(.ref a_VIRTUAL_BUS)]
    refine Goes.virt A (hw _ (List.mem_of_getElem? (i := 9) rfl)) (hw _ (List.mem_of_getElem? (i := 10) rfl)) (hw _ (List.mem_of_getElem? (i := 12) rfl)) (hw _ (List.mem_of_getElem? (i := 12) rfl)) (hw _ (List.mem_of_getElem? (i := 11) rfl)) (hw _ (List.mem_of_getElem? (i := 7) rfl)) (hw _ (List.mem_of_getElem? (i := 13) rfl)) at_81 pd_248338 (by decide) (E_VIRTUAL_BUS.keep K16) (argsL := []) (rest := []) rfl rfl rfl (W := 0) (Nat.le_of_ble_eq_true rfl) (by decide) (by decide) (by decide) (by decide) (ks l Z n0 a0 hw h16 a_VIRTUAL_BUS a_DATA a_SUBPROGRAM a_SUBPROGRAM_GROUP 1 (by simp [x_VIRTUAL_BUS_DATA, x_VIRTUAL_BUS_SUBPROGRAM, x_VIRTUAL_BUS_SUBPROGRAM_GROUP]) (R16.sta (i := 2) rfl) (R16.sta (i := 7) rfl) (R16.sta (i := 8) rfl)) (fun v hq hh => ?_)
    obtain ⟨rfl, rfl⟩ := hh
    show Goes p l e _ s m _ below meth c n0 _ h16 1 14 84 #[.val (.int p1), .val (.int (12 : Int32)), .val (.ref b1)] [(.int (1 : Int32))]
    refine Goes.blk A _ b0_84_2 (pc' := 86) (Ls' := #[.val (.int p1), .val (.int (12 : Int32)), .val (.ref b1)]) (st' := [(.int (12 : Int32)), (.ref b1), (.int (1 : Int32))]) rfl ?_
    refine Goes.zaload A R16 (i := 0) rfl (k := 12) (by decide) rfl at_86 ?_
    refine Goes.if2 A at_87 (by decide) (pc' := 94) (by decide) (fun hc => absurd hc (cP_f (by decide))) (fun hc29 => ?_)
    refine Goes.blk A _ b0_90_1 (pc' := 91) (Ls' := #[.val (.int p1), .val (.int (12 : Int32)), .val (.ref b1)]) (st' := [(.int (1 : Int32))]) rfl ?_
    refine Goes.jump A at_91 (by decide) (pc' := 95) (by decide) ?_
    exact Goes.retB A hret (by simp) hlk at_95 (z' := 1) (by decide) (by decide) (by decide) rfl
  · skip
    rw [r1]
    refine Goes.static A (hw _ (List.mem_of_getElem? (i := 2) rfl)) (hw _ (List.mem_of_getElem? (i := 3) rfl)) (hw _ (List.mem_of_getElem? (i := 4) rfl)) (hw _ (List.mem_of_getElem? (i := 5) rfl)) at_78 pd_412537 (by decide) (argsL := [(.int (13 : Int32))]) (rest := []) rfl rfl rfl (W := 0) (Nat.le_of_ble_eq_true rfl) (by decide) (by decide) (by decide) (by decide) (kp13 l Z n0 a0 hw h16 a_VIRTUAL_PROCESSOR (R16.sta (i := 13) rfl)) (fun v hq hh => ?_)
    obtain ⟨rfl, rfl⟩ := hh
    show Goes p l e _ s m _ below meth c n0 _ h16 1 14 81 #[.val (.int p1), .val (.int (13 : Int32)), .val (.ref b1)] [(.ref a_VIRTUAL_PROCESSOR)]
    refine Goes.virt A (hw _ (List.mem_of_getElem? (i := 9) rfl)) (hw _ (List.mem_of_getElem? (i := 10) rfl)) (hw _ (List.mem_of_getElem? (i := 12) rfl)) (hw _ (List.mem_of_getElem? (i := 12) rfl)) (hw _ (List.mem_of_getElem? (i := 11) rfl)) (hw _ (List.mem_of_getElem? (i := 7) rfl)) (hw _ (List.mem_of_getElem? (i := 13) rfl)) at_81 pd_248338 (by decide) (E_VIRTUAL_PROCESSOR.keep K16) (argsL := []) (rest := []) rfl rfl rfl (W := 0) (Nat.le_of_ble_eq_true rfl) (by decide) (by decide) (by decide) (by decide) (ks l Z n0 a0 hw h16 a_VIRTUAL_PROCESSOR a_DATA a_SUBPROGRAM a_SUBPROGRAM_GROUP 1 (by simp [x_VIRTUAL_PROCESSOR_DATA, x_VIRTUAL_PROCESSOR_SUBPROGRAM, x_VIRTUAL_PROCESSOR_SUBPROGRAM_GROUP]) (R16.sta (i := 2) rfl) (R16.sta (i := 7) rfl) (R16.sta (i := 8) rfl)) (fun v hq hh => ?_)
    obtain ⟨rfl, rfl⟩ := hh
    show Goes p l e _ s m _ below meth c n0 _ h16 1 14 84 #[.val (.int p1), .val (.int (13 : Int32)), .val (.ref b1)] [(.int (1 : Int32))]
    refine Goes.blk A _ b0_84_2 (pc' := 86) (Ls' := #[.val (.int p1), .val (.int (13 : Int32)), .val (.ref b1)]) (st' := [(.int (13 : Int32)), (.ref b1), (.int (1 : Int32))]) rfl ?_
    refine Goes.zaload A R16 (i := 0) rfl (k := 13) (by decide) rfl at_86 ?_
    refine Goes.if2 A at_87 (by decide) (pc' := 94) (by decide) (fun hc => absurd hc (cP_f (by decide))) (fun hc30 => ?_)
    refine Goes.blk A _ b0_90_1 (pc' := 91) (Ls' := #[.val (.int p1), .val (.int (13 : Int32)), .val (.ref b1)]) (st' := [(.int (1 : Int32))]) rfl ?_
    refine Goes.jump A at_91 (by decide) (pc' := 95) (by decide) ?_
    exact Goes.retB A hret (by simp) hlk at_95 (z' := 1) (by decide) (by decide) (by decide) rfl
theorem own_fld {args : Array Value} {s : State} {t : Term} {a : Addr} {O n d : String} {k : Int32} (ev : t.eval args s none [] s = some (.ref a)) (hq : (Jvm.Cond.eq (Term.field t O n d) (Term.int k)).value args s none s [] = some true) : Fld s s.heap a O n d (.int k) := by
  refine Fld.start ?_
  have e1 := fld_at (C := O) (n := n) (dd := d) ev
  have e2 : (Term.int k).eval args s none [] s = some (.int k) := rfl
  simp only [Cond.value] at hq
  rw [e1, e2] at hq
  cases hf : s.fieldOf? a O n d with
  | none => rw [hf] at hq; cases hq
  | some v => rw [hf] at hq; cases v <;> simp at hq ⊢; exact hq
set_option maxRecDepth 65536 in
set_option maxHeartbeats 40000000 in
theorem comes_1 {Post : Tables → Env → Array Value → State → Outcome → State → Prop} (hpost : ∀ tb e args s v u, (limb_1_1.after args s (.returned v) u = true ∧ limb_1_2.after args s (.returned v) u = true ∧ True) → FrameEnd s (.returned v) u (Jvm.fieldLocs frame_1_writes args s ++ Jvm.arrayLocs frame_1_arrays args s ++ Jvm.staticLocs frame_1_statics s) 16 128 → Post tb e args s (.returned v) u) :
    ArmFor flags0 classFile x code maxLocals ret World_1 tables_1 room_1 Calls_1 rest_1 Pre_1 Post := by
  intro l hfl _ _ p e ha hc hk s m args below hf hA hF happ hP
  obtain ⟨hcalls, hrest, hpre⟩ := hP
  obtain ⟨-, -, -, hnamed, -, -, -, hat⟩ := (Spec.applies_iff hf).mp happ
  obtain ⟨hg, hn⟩ := and_e (Cond.before_iff.mp (show (Jvm.Cond.and given_1 narrow_1).before args s = true from hpre))
  obtain ⟨gc, g0⟩ := and_e hg
  obtain ⟨w0, rfl⟩ : ∃ w0 : Value, args = #[w0] := by
    have hs : args.size = 1 := by simpa [Cond.value, given_1] using gc
    obtain ⟨L⟩ := args
    match L, hs with
    | [w0], _ => exact ⟨w0, rfl⟩
  have hw := fun d (hd : d ∈ tables_1) => atoms_spec (ws := Jvm.Cond.code x code maxLocals ret :: tables_1) hat d (List.mem_cons_of_mem _ hd)
  have hfit : Fit s := fun {y c} hc i hi => by
    obtain ⟨ha, rfl⟩ := Array.getElem?_eq_some_iff.mp hc
    have q := List.all_eq_true.mp ((Array.all_eq_true_iff_forall_mem.mp hF) _ (Array.getElem_mem ha)) i (List.mem_range.mpr hi)
    simpa [Array.getElem?_eq_getElem hi] using q
  obtain ⟨i0, ei0⟩ := is_v g0
  obtain rfl : w0 = (.int i0) := Option.some.inj ei0
  obtain ⟨q0, r0⟩ := and_e hn
  obtain ⟨q1, r1⟩ := and_e r0
  obtain ⟨q2, r2⟩ := and_e r1
  obtain ⟨q3, r3⟩ := and_e r2
  obtain ⟨q4, r4⟩ := and_e r3
  obtain ⟨q5, r5⟩ := and_e r4
  obtain ⟨q6, r6⟩ := and_e r5
  obtain ⟨q7, r7⟩ := and_e r6
  obtain ⟨q8, r8⟩ := and_e r7
  obtain ⟨q9, r9⟩ := and_e r8
  obtain ⟨q10, r10⟩ := and_e r9
  obtain ⟨q11, r11⟩ := and_e r10
  obtain ⟨q12, r12⟩ := and_e r11
  obtain ⟨q13, r13⟩ := and_e r12
  obtain ⟨q14, r14⟩ := and_e r13
  obtain ⟨q15, r15⟩ := and_e r14
  obtain ⟨q16, r16⟩ := and_e r15
  obtain ⟨q17, r17⟩ := and_e r16
  obtain ⟨q18, r18⟩ := and_e r17
  obtain ⟨q19, r19⟩ := and_e r18
  obtain ⟨q20, r20⟩ := and_e r19
  obtain ⟨q21, r21⟩ := and_e r20
  obtain ⟨q22, r22⟩ := and_e r21
  obtain ⟨q23, r23⟩ := and_e r22
  obtain ⟨q24, r24⟩ := and_e r23
  obtain ⟨q25, r25⟩ := and_e r24
  obtain ⟨q26, r26⟩ := and_e r25
  obtain ⟨a_ABSTRACT, ev_ABSTRACT⟩ := exa_v q0
  have S_ABSTRACT : Sta s s.heap site_81.cls "ABSTRACT" own_dC (.ref a_ABSTRACT) := Sta.start ev_ABSTRACT (Or.inr ⟨(hw _ (List.mem_of_getElem? (i := 7) rfl)), (hw _ (List.mem_of_getElem? (i := 8) rfl))⟩)
  have E_ABSTRACT : Exa s s.heap a_ABSTRACT site_81.cls := Exa.start ev_ABSTRACT q0
  obtain ⟨a_DATA, ev_DATA⟩ := exa_v q1
  have S_DATA : Sta s s.heap site_81.cls "DATA" own_dC (.ref a_DATA) := Sta.start ev_DATA (Or.inr ⟨(hw _ (List.mem_of_getElem? (i := 7) rfl)), (hw _ (List.mem_of_getElem? (i := 15) rfl))⟩)
  have E_DATA : Exa s s.heap a_DATA site_81.cls := Exa.start ev_DATA q1
  obtain ⟨a_SUBPROGRAM, ev_SUBPROGRAM⟩ := exa_v q4
  have S_SUBPROGRAM : Sta s s.heap site_81.cls "SUBPROGRAM" own_dC (.ref a_SUBPROGRAM) := Sta.start ev_SUBPROGRAM (Or.inr ⟨(hw _ (List.mem_of_getElem? (i := 7) rfl)), (hw _ (List.mem_of_getElem? (i := 17) rfl))⟩)
  have E_SUBPROGRAM : Exa s s.heap a_SUBPROGRAM site_81.cls := Exa.start ev_SUBPROGRAM q4
  obtain ⟨a_SUBPROGRAM_GROUP, ev_SUBPROGRAM_GROUP⟩ := exa_v q6
  have S_SUBPROGRAM_GROUP : Sta s s.heap site_81.cls "SUBPROGRAM_GROUP" own_dC (.ref a_SUBPROGRAM_GROUP) := Sta.start ev_SUBPROGRAM_GROUP (Or.inr ⟨(hw _ (List.mem_of_getElem? (i := 7) rfl)), (hw _ (List.mem_of_getElem? (i := 19) rfl))⟩)
  have E_SUBPROGRAM_GROUP : Exa s s.heap a_SUBPROGRAM_GROUP site_81.cls := Exa.start ev_SUBPROGRAM_GROUP q6
  obtain ⟨a_DEVICE, ev_DEVICE⟩ := exa_v q8
  have S_DEVICE : Sta s s.heap site_81.cls "DEVICE" own_dC (.ref a_DEVICE) := Sta.start ev_DEVICE (Or.inr ⟨(hw _ (List.mem_of_getElem? (i := 7) rfl)), (hw _ (List.mem_of_getElem? (i := 21) rfl))⟩)
  have E_DEVICE : Exa s s.heap a_DEVICE site_81.cls := Exa.start ev_DEVICE q8
  obtain ⟨a_VIRTUAL_BUS, ev_VIRTUAL_BUS⟩ := exa_v q10
  have S_VIRTUAL_BUS : Sta s s.heap site_81.cls "VIRTUAL_BUS" own_dC (.ref a_VIRTUAL_BUS) := Sta.start ev_VIRTUAL_BUS (Or.inr ⟨(hw _ (List.mem_of_getElem? (i := 7) rfl)), (hw _ (List.mem_of_getElem? (i := 23) rfl))⟩)
  have E_VIRTUAL_BUS : Exa s s.heap a_VIRTUAL_BUS site_81.cls := Exa.start ev_VIRTUAL_BUS q10
  obtain ⟨a_VIRTUAL_PROCESSOR, ev_VIRTUAL_PROCESSOR⟩ := exa_v q12
  have S_VIRTUAL_PROCESSOR : Sta s s.heap site_81.cls "VIRTUAL_PROCESSOR" own_dC (.ref a_VIRTUAL_PROCESSOR) := Sta.start ev_VIRTUAL_PROCESSOR (Or.inr ⟨(hw _ (List.mem_of_getElem? (i := 7) rfl)), (hw _ (List.mem_of_getElem? (i := 25) rfl))⟩)
  have E_VIRTUAL_PROCESSOR : Exa s s.heap a_VIRTUAL_PROCESSOR site_81.cls := Exa.start ev_VIRTUAL_PROCESSOR q12
  obtain ⟨a_MEMORY, ev_MEMORY⟩ := exa_v q14
  have S_MEMORY : Sta s s.heap site_81.cls "MEMORY" own_dC (.ref a_MEMORY) := Sta.start ev_MEMORY (Or.inr ⟨(hw _ (List.mem_of_getElem? (i := 7) rfl)), (hw _ (List.mem_of_getElem? (i := 27) rfl))⟩)
  have E_MEMORY : Exa s s.heap a_MEMORY site_81.cls := Exa.start ev_MEMORY q14
  obtain ⟨a_THREAD_GROUP, ev_THREAD_GROUP⟩ := exa_v q16
  have S_THREAD_GROUP : Sta s s.heap site_81.cls "THREAD_GROUP" own_dC (.ref a_THREAD_GROUP) := Sta.start ev_THREAD_GROUP (Or.inr ⟨(hw _ (List.mem_of_getElem? (i := 7) rfl)), (hw _ (List.mem_of_getElem? (i := 31) rfl))⟩)
  have E_THREAD_GROUP : Exa s s.heap a_THREAD_GROUP site_81.cls := Exa.start ev_THREAD_GROUP q16
  obtain ⟨a_THREAD, ev_THREAD⟩ := exa_v q18
  have S_THREAD : Sta s s.heap site_81.cls "THREAD" own_dC (.ref a_THREAD) := Sta.start ev_THREAD (Or.inr ⟨(hw _ (List.mem_of_getElem? (i := 7) rfl)), (hw _ (List.mem_of_getElem? (i := 33) rfl))⟩)
  have E_THREAD : Exa s s.heap a_THREAD site_81.cls := Exa.start ev_THREAD q18
  obtain ⟨a_BUS, ev_BUS⟩ := exa_v q20
  have S_BUS : Sta s s.heap site_81.cls "BUS" own_dC (.ref a_BUS) := Sta.start ev_BUS (Or.inr ⟨(hw _ (List.mem_of_getElem? (i := 7) rfl)), (hw _ (List.mem_of_getElem? (i := 36) rfl))⟩)
  have E_BUS : Exa s s.heap a_BUS site_81.cls := Exa.start ev_BUS q20
  obtain ⟨a_SYSTEM, ev_SYSTEM⟩ := exa_v q22
  have S_SYSTEM : Sta s s.heap site_81.cls "SYSTEM" own_dC (.ref a_SYSTEM) := Sta.start ev_SYSTEM (Or.inr ⟨(hw _ (List.mem_of_getElem? (i := 7) rfl)), (hw _ (List.mem_of_getElem? (i := 38) rfl))⟩)
  have E_SYSTEM : Exa s s.heap a_SYSTEM site_81.cls := Exa.start ev_SYSTEM q22
  obtain ⟨a_PROCESS, ev_PROCESS⟩ := exa_v q24
  have S_PROCESS : Sta s s.heap site_81.cls "PROCESS" own_dC (.ref a_PROCESS) := Sta.start ev_PROCESS (Or.inr ⟨(hw _ (List.mem_of_getElem? (i := 7) rfl)), (hw _ (List.mem_of_getElem? (i := 40) rfl))⟩)
  have E_PROCESS : Exa s s.heap a_PROCESS site_81.cls := Exa.start ev_PROCESS q24
  obtain ⟨a_PROCESSOR, ev_PROCESSOR⟩ := exa_v q26
  have S_PROCESSOR : Sta s s.heap site_81.cls "PROCESSOR" own_dC (.ref a_PROCESSOR) := Sta.start ev_PROCESSOR (Or.inr ⟨(hw _ (List.mem_of_getElem? (i := 7) rfl)), (hw _ (List.mem_of_getElem? (i := 42) rfl))⟩)
  have E_PROCESSOR : Exa s s.heap a_PROCESSOR site_81.cls := Exa.start ev_PROCESSOR q26
  have F_ABSTRACT_ordinal : Fld s s.heap a_ABSTRACT "java/lang/Enum" "ordinal" "I" (.int (0 : Int32)) := own_fld ev_ABSTRACT q2
  have F_DATA_ordinal : Fld s s.heap a_DATA "java/lang/Enum" "ordinal" "I" (.int (2 : Int32)) := own_fld ev_DATA q3
  have F_SUBPROGRAM_ordinal : Fld s s.heap a_SUBPROGRAM "java/lang/Enum" "ordinal" "I" (.int (7 : Int32)) := own_fld ev_SUBPROGRAM q5
  have F_SUBPROGRAM_GROUP_ordinal : Fld s s.heap a_SUBPROGRAM_GROUP "java/lang/Enum" "ordinal" "I" (.int (8 : Int32)) := own_fld ev_SUBPROGRAM_GROUP q7
  have F_DEVICE_ordinal : Fld s s.heap a_DEVICE "java/lang/Enum" "ordinal" "I" (.int (3 : Int32)) := own_fld ev_DEVICE q9
  have F_VIRTUAL_BUS_ordinal : Fld s s.heap a_VIRTUAL_BUS "java/lang/Enum" "ordinal" "I" (.int (12 : Int32)) := own_fld ev_VIRTUAL_BUS q11
  have F_VIRTUAL_PROCESSOR_ordinal : Fld s s.heap a_VIRTUAL_PROCESSOR "java/lang/Enum" "ordinal" "I" (.int (13 : Int32)) := own_fld ev_VIRTUAL_PROCESSOR q13
  have F_MEMORY_ordinal : Fld s s.heap a_MEMORY "java/lang/Enum" "ordinal" "I" (.int (4 : Int32)) := own_fld ev_MEMORY q15
  have F_THREAD_GROUP_ordinal : Fld s s.heap a_THREAD_GROUP "java/lang/Enum" "ordinal" "I" (.int (11 : Int32)) := own_fld ev_THREAD_GROUP q17
  have F_THREAD_ordinal : Fld s s.heap a_THREAD "java/lang/Enum" "ordinal" "I" (.int (10 : Int32)) := own_fld ev_THREAD q19
  have F_BUS_ordinal : Fld s s.heap a_BUS "java/lang/Enum" "ordinal" "I" (.int (1 : Int32)) := own_fld ev_BUS q21
  have F_SYSTEM_ordinal : Fld s s.heap a_SYSTEM "java/lang/Enum" "ordinal" "I" (.int (9 : Int32)) := own_fld ev_SYSTEM q23
  have F_PROCESS_ordinal : Fld s s.heap a_PROCESS "java/lang/Enum" "ordinal" "I" (.int (5 : Int32)) := own_fld ev_PROCESS q25
  have F_PROCESSOR_ordinal : Fld s s.heap a_PROCESSOR "java/lang/Enum" "ordinal" "I" (.int (6 : Int32)) := own_fld ev_PROCESSOR r26
  have x_ABSTRACT_DATA : ¬ a_ABSTRACT = a_DATA := fun q => Fld.ne F_ABSTRACT_ordinal F_DATA_ordinal (by decide) q
  have x_ABSTRACT_SUBPROGRAM : ¬ a_ABSTRACT = a_SUBPROGRAM := fun q => Fld.ne F_ABSTRACT_ordinal F_SUBPROGRAM_ordinal (by decide) q
  have x_ABSTRACT_SUBPROGRAM_GROUP : ¬ a_ABSTRACT = a_SUBPROGRAM_GROUP := fun q => Fld.ne F_ABSTRACT_ordinal F_SUBPROGRAM_GROUP_ordinal (by decide) q
  have x_BUS_DATA : ¬ a_BUS = a_DATA := fun q => Fld.ne F_BUS_ordinal F_DATA_ordinal (by decide) q
  have x_BUS_SUBPROGRAM : ¬ a_BUS = a_SUBPROGRAM := fun q => Fld.ne F_BUS_ordinal F_SUBPROGRAM_ordinal (by decide) q
  have x_BUS_SUBPROGRAM_GROUP : ¬ a_BUS = a_SUBPROGRAM_GROUP := fun q => Fld.ne F_BUS_ordinal F_SUBPROGRAM_GROUP_ordinal (by decide) q
  have x_DEVICE_DATA : ¬ a_DEVICE = a_DATA := fun q => Fld.ne F_DEVICE_ordinal F_DATA_ordinal (by decide) q
  have x_DEVICE_SUBPROGRAM : ¬ a_DEVICE = a_SUBPROGRAM := fun q => Fld.ne F_DEVICE_ordinal F_SUBPROGRAM_ordinal (by decide) q
  have x_DEVICE_SUBPROGRAM_GROUP : ¬ a_DEVICE = a_SUBPROGRAM_GROUP := fun q => Fld.ne F_DEVICE_ordinal F_SUBPROGRAM_GROUP_ordinal (by decide) q
  have x_MEMORY_DATA : ¬ a_MEMORY = a_DATA := fun q => Fld.ne F_MEMORY_ordinal F_DATA_ordinal (by decide) q
  have x_MEMORY_SUBPROGRAM : ¬ a_MEMORY = a_SUBPROGRAM := fun q => Fld.ne F_MEMORY_ordinal F_SUBPROGRAM_ordinal (by decide) q
  have x_MEMORY_SUBPROGRAM_GROUP : ¬ a_MEMORY = a_SUBPROGRAM_GROUP := fun q => Fld.ne F_MEMORY_ordinal F_SUBPROGRAM_GROUP_ordinal (by decide) q
  have x_PROCESS_DATA : ¬ a_PROCESS = a_DATA := fun q => Fld.ne F_PROCESS_ordinal F_DATA_ordinal (by decide) q
  have x_PROCESS_SUBPROGRAM : ¬ a_PROCESS = a_SUBPROGRAM := fun q => Fld.ne F_PROCESS_ordinal F_SUBPROGRAM_ordinal (by decide) q
  have x_PROCESS_SUBPROGRAM_GROUP : ¬ a_PROCESS = a_SUBPROGRAM_GROUP := fun q => Fld.ne F_PROCESS_ordinal F_SUBPROGRAM_GROUP_ordinal (by decide) q
  have x_PROCESSOR_DATA : ¬ a_PROCESSOR = a_DATA := fun q => Fld.ne F_PROCESSOR_ordinal F_DATA_ordinal (by decide) q
  have x_PROCESSOR_SUBPROGRAM : ¬ a_PROCESSOR = a_SUBPROGRAM := fun q => Fld.ne F_PROCESSOR_ordinal F_SUBPROGRAM_ordinal (by decide) q
  have x_PROCESSOR_SUBPROGRAM_GROUP : ¬ a_PROCESSOR = a_SUBPROGRAM_GROUP := fun q => Fld.ne F_PROCESSOR_ordinal F_SUBPROGRAM_GROUP_ordinal (by decide) q
  have x_SYSTEM_DATA : ¬ a_SYSTEM = a_DATA := fun q => Fld.ne F_SYSTEM_ordinal F_DATA_ordinal (by decide) q
  have x_SYSTEM_SUBPROGRAM : ¬ a_SYSTEM = a_SUBPROGRAM := fun q => Fld.ne F_SYSTEM_ordinal F_SUBPROGRAM_ordinal (by decide) q
  have x_SYSTEM_SUBPROGRAM_GROUP : ¬ a_SYSTEM = a_SUBPROGRAM_GROUP := fun q => Fld.ne F_SYSTEM_ordinal F_SUBPROGRAM_GROUP_ordinal (by decide) q
  have x_THREAD_DATA : ¬ a_THREAD = a_DATA := fun q => Fld.ne F_THREAD_ordinal F_DATA_ordinal (by decide) q
  have x_THREAD_SUBPROGRAM : ¬ a_THREAD = a_SUBPROGRAM := fun q => Fld.ne F_THREAD_ordinal F_SUBPROGRAM_ordinal (by decide) q
  have x_THREAD_SUBPROGRAM_GROUP : ¬ a_THREAD = a_SUBPROGRAM_GROUP := fun q => Fld.ne F_THREAD_ordinal F_SUBPROGRAM_GROUP_ordinal (by decide) q
  have x_THREAD_GROUP_DATA : ¬ a_THREAD_GROUP = a_DATA := fun q => Fld.ne F_THREAD_GROUP_ordinal F_DATA_ordinal (by decide) q
  have x_THREAD_GROUP_SUBPROGRAM : ¬ a_THREAD_GROUP = a_SUBPROGRAM := fun q => Fld.ne F_THREAD_GROUP_ordinal F_SUBPROGRAM_ordinal (by decide) q
  have x_THREAD_GROUP_SUBPROGRAM_GROUP : ¬ a_THREAD_GROUP = a_SUBPROGRAM_GROUP := fun q => Fld.ne F_THREAD_GROUP_ordinal F_SUBPROGRAM_GROUP_ordinal (by decide) q
  have x_VIRTUAL_BUS_DATA : ¬ a_VIRTUAL_BUS = a_DATA := fun q => Fld.ne F_VIRTUAL_BUS_ordinal F_DATA_ordinal (by decide) q
  have x_VIRTUAL_BUS_SUBPROGRAM : ¬ a_VIRTUAL_BUS = a_SUBPROGRAM := fun q => Fld.ne F_VIRTUAL_BUS_ordinal F_SUBPROGRAM_ordinal (by decide) q
  have x_VIRTUAL_BUS_SUBPROGRAM_GROUP : ¬ a_VIRTUAL_BUS = a_SUBPROGRAM_GROUP := fun q => Fld.ne F_VIRTUAL_BUS_ordinal F_SUBPROGRAM_GROUP_ordinal (by decide) q
  have x_VIRTUAL_PROCESSOR_DATA : ¬ a_VIRTUAL_PROCESSOR = a_DATA := fun q => Fld.ne F_VIRTUAL_PROCESSOR_ordinal F_DATA_ordinal (by decide) q
  have x_VIRTUAL_PROCESSOR_SUBPROGRAM : ¬ a_VIRTUAL_PROCESSOR = a_SUBPROGRAM := fun q => Fld.ne F_VIRTUAL_PROCESSOR_ordinal F_SUBPROGRAM_ordinal (by decide) q
  have x_VIRTUAL_PROCESSOR_SUBPROGRAM_GROUP : ¬ a_VIRTUAL_PROCESSOR = a_SUBPROGRAM_GROUP := fun q => Fld.ne F_VIRTUAL_PROCESSOR_ordinal F_SUBPROGRAM_GROUP_ordinal (by decide) q
  have R0 : Rep s #[(.int i0)] s.heap.size s.heap (GG a_ABSTRACT a_BUS a_DATA a_DEVICE a_MEMORY a_PROCESS a_PROCESSOR a_SUBPROGRAM a_SUBPROGRAM_GROUP a_SYSTEM a_THREAD a_THREAD_GROUP a_VIRTUAL_BUS a_VIRTUAL_PROCESSOR) [] := ⟨fun g hg => by
      simp only [GG, List.mem_cons, List.not_mem_nil, or_false] at hg
      rcases hg with rfl | rfl | rfl | rfl | rfl | rfl | rfl | rfl | rfl | rfl | rfl | rfl | rfl | rfl
      · exact S_ABSTRACT
      · exact S_BUS
      · exact S_DATA
      · exact S_DEVICE
      · exact S_MEMORY
      · exact S_PROCESS
      · exact S_PROCESSOR
      · exact S_SUBPROGRAM
      · exact S_SUBPROGRAM_GROUP
      · exact S_SYSTEM
      · exact S_THREAD
      · exact S_THREAD_GROUP
      · exact S_VIRTUAL_BUS
      · exact S_VIRTUAL_PROCESSOR
      , fun o ho => (by cases ho), List.nodup_nil⟩
  obtain ⟨n, o, h1, h2, h3, v, L, rfl, ⟨hv, N⟩, hq⟩ := (k0 l s s.heap.size _ hw s.heap (Nat.le_refl _) i0 a_ABSTRACT a_BUS a_DATA a_DEVICE a_MEMORY a_PROCESS a_PROCESSOR a_SUBPROGRAM a_SUBPROGRAM_GROUP a_SYSTEM a_THREAD a_THREAD_GROUP a_VIRTUAL_BUS a_VIRTUAL_PROCESSOR E_ABSTRACT E_BUS E_DATA E_DEVICE E_MEMORY E_PROCESS E_PROCESSOR E_SUBPROGRAM E_SUBPROGRAM_GROUP E_SYSTEM E_THREAD E_THREAD_GROUP E_VIRTUAL_BUS E_VIRTUAL_PROCESSOR x_ABSTRACT_DATA x_ABSTRACT_SUBPROGRAM x_ABSTRACT_SUBPROGRAM_GROUP x_BUS_DATA x_BUS_SUBPROGRAM x_BUS_SUBPROGRAM_GROUP x_DEVICE_DATA x_DEVICE_SUBPROGRAM x_DEVICE_SUBPROGRAM_GROUP x_MEMORY_DATA x_MEMORY_SUBPROGRAM x_MEMORY_SUBPROGRAM_GROUP x_PROCESS_DATA x_PROCESS_SUBPROGRAM x_PROCESS_SUBPROGRAM_GROUP x_PROCESSOR_DATA x_PROCESSOR_SUBPROGRAM x_PROCESSOR_SUBPROGRAM_GROUP x_SYSTEM_DATA x_SYSTEM_SUBPROGRAM x_SYSTEM_SUBPROGRAM_GROUP x_THREAD_DATA x_THREAD_SUBPROGRAM x_THREAD_SUBPROGRAM_GROUP x_THREAD_GROUP_DATA x_THREAD_GROUP_SUBPROGRAM x_THREAD_GROUP_SUBPROGRAM_GROUP x_VIRTUAL_BUS_DATA x_VIRTUAL_BUS_SUBPROGRAM x_VIRTUAL_BUS_SUBPROGRAM_GROUP x_VIRTUAL_PROCESSOR_DATA x_VIRTUAL_PROCESSOR_SUBPROGRAM x_VIRTUAL_PROCESSOR_SUBPROGRAM_GROUP R0) tables_1 p e ha hc hk s m _ below hf ((Spec.applies_iff_loose hf).mp happ).1 ⟨rfl, State.Warmed39.refl s, rfl⟩ trivial
  subst hv
  refine ⟨n, _, h1, h2, h3, hpost _ _ _ _ _ _ ⟨Cond.after_iff.mpr rfl, Cond.after_iff.mpr (eq_i res_at (Term.int_eval (1)) rfl), trivial⟩ ⟨hq.1, hq.2.1, (hq.2.2.sift fun y hy => Or.inr (N y hy)).mono (by decide) (by decide)⟩⟩
theorem main_1_1 : Claimed_1_1 := comes_1 fun _ _ _ _ _ _ h hF => ⟨h.1, hF⟩
theorem main_1_2 : Claimed_1_2 := comes_1 fun _ _ _ _ _ _ h hF => ⟨h.2.1, hF⟩
end Jvm.Pilot.@@N@@
namespace Jvm.Pilot.@@N@@
open Jvm Jvm.ClassFile Sem Op Lib Jvm.Free Jvm.Stand Jvm.Pilot.@@N@@.Jvm.D
/-! MADE BY PROGRAM (witnessworld.py) out of the Statement's table words and the real class files: 14 classes; the members and pool entries that the words name. The judged class is class 1, her method 2. -/
namespace start1
open Jvm.ClassFile
def u (s : String) : CpInfo := .utf8 (stringToUtf16 s)
/-- a pool by its gaps: so many unusable entries, then the entry; so many at the end -/
def gap : Nat → List CpInfo → List CpInfo
  | 0, r => r
  | n + 1, r => .unusable :: gap n r
def poolList (es : List (Nat × CpInfo)) (last : Nat) : List CpInfo := es.foldr (fun e r => gap e.1 (e.2 :: r)) (gap last [])
def pool (es : List (Nat × CpInfo)) (last : Nat) : Array CpInfo := ⟨poolList es last⟩
def fileOf (pool : Array CpInfo) (this : Nat) (attrs : Array Attribute := #[]) (ms : Array MethodInfo := #[]) (fl : Nat := 33) (sup : Nat := 0) (ifs : Array Nat := #[]) (fds : Array FieldInfo := #[]) : ClassFile where
  minorVersion := 0
  majorVersion := 65
  constantPool := pool
  accessFlags := fl
  thisClass := this
  superClass := sup
  interfaces := ifs
  fields := fds
  methods := ms
  attributes := attrs
def plain (name : String) (sup : Option ClassId) : Class where
  name := name
  kind := .ordinary
  loader := none
  accessFlags := 33
  super := sup
  interfaces := #[]
  cf := none
  fields := #[]
  methods := #[]
  instanceTypes := #[]
  staticTypes := #[]
  resolved := #[]
  callSites := []
  init := .initialized
  statics := none
  mirror := none

def pool0 : Array CpInfo := pool [(5, u "<init>"), (0, u "()V"), (1, .class_ 10), (1, u "java/lang/Object")] 113

def k0m0 : Method := { name := "<init>", desc := "()V", sig := { parameters := [], returnType := none }, accessFlags := 1, code := none }
/-- java/lang/Object -/
def k0 : Class := { plain "java/lang/Object" none with
  accessFlags := 33
  interfaces := #[]
  cf := some (fileOf pool0 8 #[] #[{ accessFlags := 1, nameIndex := 5, descriptorIndex := 6, attributes := #[] }] 33 0 #[] #[])
  fields := #[]
  methods := #[k0m0]
  instanceTypes := #[]
  staticTypes := #[]
  resolved := Array.replicate 124 none
  statics := none }

def pool1 : Array CpInfo := pool [(2, .class_ 4), (1, u "java/lang/Object"), (0, u "<init>"), (0, u "()V"), (0, .fieldref 8 9), (0, .class_ 10), (0, .nameAndType 11 12), (0, u site_81.cls), (0, u "ABSTRACT"), (0, u own_dC), (0, .fieldref 8 14), (0, .nameAndType 15 12), (0, u "BUS"), (0, .fieldref 8 17), (0, .nameAndType 18 12), (0, u "DATA"), (0, .fieldref 8 20), (0, .nameAndType 21 12), (0, u "DEVICE"), (0, .fieldref 8 23), (0, .nameAndType 24 12), (0, u "MEMORY"), (0, .fieldref 8 26), (0, .nameAndType 27 12), (0, u "PROCESS"), (0, .fieldref 8 29), (0, .nameAndType 30 12), (0, u "PROCESSOR"), (0, .fieldref 8 32), (0, .nameAndType 33 12), (0, u "SUBPROGRAM"), (0, .fieldref 8 35), (0, .nameAndType 36 12), (0, u "SUBPROGRAM_GROUP"), (0, .fieldref 8 38), (0, .nameAndType 39 12), (0, u "SYSTEM"), (0, .fieldref 8 41), (0, .nameAndType 42 12), (0, u "THREAD"), (0, .fieldref 8 44), (0, .nameAndType 45 12), (0, u "THREAD_GROUP"), (0, .fieldref 8 47), (0, .nameAndType 48 12), (0, u "VIRTUAL_BUS"), (0, .fieldref 8 50), (0, .nameAndType 51 12), (0, u "VIRTUAL_PROCESSOR"), (0, .integer 2147483647), (0, .methodref 54 55), (0, .class_ 56), (0, .nameAndType 57 58), (0, u x.cls), (0, u "pick"), (0, u site_78.desc), (0, .methodref 8 60), (0, .nameAndType 61 62), (0, u "isSubject"), (0, u "()Z"), (3, u "law"), (0, u "(I)Z")] 4

def k1m0 : Method := { name := "<init>", desc := "()V", sig := { parameters := [], returnType := none }, accessFlags := 1, code := none }
def k1c1 : Code := { maxStack := 2, maxLocals := 1, code := method_2_code, exceptionTable := #[], attributes := #[] }
def k1m1 : Method := { name := "pick", desc := site_78.desc, sig := { parameters := [.int], returnType := some (.object site_81.cls) }, accessFlags := 10, code := some k1c1 }
def k1c2 : Code := { maxStack := 4, maxLocals := 3, code := code, exceptionTable := #[], attributes := #[] }
def k1m2 : Method := { name := "law", desc := "(I)Z", sig := { parameters := [.int], returnType := some .boolean }, accessFlags := 9, code := some k1c2 }

def k1 : Class := { plain x.cls (some 0) with
  accessFlags := 49
  interfaces := #[]
  cf := some (fileOf pool1 54 #[] #[{ accessFlags := 1, nameIndex := 5, descriptorIndex := 6, attributes := #[] }, { accessFlags := 10, nameIndex := 57, descriptorIndex := 58, attributes := #[] }, { accessFlags := 9, nameIndex := 66, descriptorIndex := 67, attributes := #[] }] 49 2 #[] #[])
  fields := #[]
  methods := #[k1m0, k1m1, k1m2]
  instanceTypes := #[]
  staticTypes := #[]
  resolved := Array.replicate 72 none
  statics := none }

def pool2 : Array CpInfo := pool [(1, .class_ 2), (0, u "java/lang/constant/Constable"), (0, .class_ 4), (0, u "java/lang/Object")] 6

/-- java/lang/constant/Constable -/
def k2 : Class := { plain "java/lang/constant/Constable" (some 0) with
  accessFlags := 1537
  interfaces := #[]
  cf := some (fileOf pool2 1 #[] #[] 1537 3 #[] #[])
  fields := #[]
  methods := #[]
  instanceTypes := #[]
  staticTypes := #[]
  resolved := Array.replicate 11 none
  statics := none }

def pool3 : Array CpInfo := pool [(1, .class_ 2), (0, u "java/lang/Comparable"), (0, .class_ 4), (0, u "java/lang/Object")] 7

/-- java/lang/Comparable -/
def k3 : Class := { plain "java/lang/Comparable" (some 0) with
  accessFlags := 1537
  interfaces := #[]
  cf := some (fileOf pool3 1 #[] #[] 1537 3 #[] #[])
  fields := #[]
  methods := #[]
  instanceTypes := #[]
  staticTypes := #[]
  resolved := Array.replicate 12 none
  statics := none }

def pool4 : Array CpInfo := pool [(1, .class_ 2), (0, u "java/io/Serializable"), (0, .class_ 4), (0, u "java/lang/Object")] 2

/-- java/io/Serializable -/
def k4 : Class := { plain "java/io/Serializable" (some 0) with
  accessFlags := 1537
  interfaces := #[]
  cf := some (fileOf pool4 1 #[] #[] 1537 3 #[] #[])
  fields := #[]
  methods := #[]
  instanceTypes := #[]
  staticTypes := #[]
  resolved := Array.replicate 7 none
  statics := none }

def pool5 : Array CpInfo := pool [(2, .class_ 4), (1, u "java/lang/Enum"), (0, u "name"), (0, u "Ljava/lang/String;"), (2, u "ordinal"), (0, u "I"), (1, .class_ 14), (1, u "java/lang/Object"), (4, u "hash"), (86, .class_ 108), (1, u "java/lang/Enum$EnumDesc"), (2, .class_ 112), (0, u "java/lang/constant/Constable"), (0, .class_ 114), (0, u "java/lang/Comparable"), (0, .class_ 116), (0, u "java/io/Serializable")] 87

/-- java/lang/Enum -/
def k5 : Class := { plain "java/lang/Enum" (some 0) with
  accessFlags := 1057
  interfaces := #[2, 3, 4]
  cf := some (fileOf pool5 2 #[.nestMembers #[106]] #[] 1057 12 #[111, 113, 115] #[{ accessFlags := 18, nameIndex := 5, descriptorIndex := 6, attributes := #[] }, { accessFlags := 18, nameIndex := 9, descriptorIndex := 10, attributes := #[] }, { accessFlags := 2, nameIndex := 19, descriptorIndex := 10, attributes := #[] }])
  fields := #[{ name := "name", type := (.object "java/lang/String"), accessFlags := 18, slot := 0, constantValue := 0 }, { name := "ordinal", type := .int, accessFlags := 18, slot := 1, constantValue := 0 }, { name := "hash", type := .int, accessFlags := 2, slot := 2, constantValue := 0 }]
  methods := #[]
  instanceTypes := #[(.object "java/lang/String"), .int, .int]
  staticTypes := #[]
  resolved := Array.replicate 204 none
  statics := none }

def pool6 : Array CpInfo := pool [(1, .class_ 2), (0, u site_81.cls), (2, u "ABSTRACT"), (0, u own_dC), (2, u "BUS"), (0, .fieldref 1 11), (0, .nameAndType 12 6), (0, u "DATA"), (2, u "DEVICE"), (2, u "MEMORY"), (2, u "PROCESS"), (2, u "PROCESSOR"), (0, .fieldref 1 26), (0, .nameAndType 27 6), (0, u "SUBPROGRAM"), (0, .fieldref 1 29), (0, .nameAndType 30 6), (0, u "SUBPROGRAM_GROUP"), (2, u "SYSTEM"), (2, u "THREAD"), (2, u "THREAD_GROUP"), (2, u "VIRTUAL_BUS"), (2, u "VIRTUAL_PROCESSOR"), (2, u "$VALUES"), (0, .utf8 (#[91] ++ stringToUtf16 own_dC)), (6, .class_ 58), (1, u "java/lang/Enum"), (8, u "keywords"), (0, u "Ljava/lang/String;"), (56, u "isSubject"), (0, u "()Z")] 8

def k6c0 : Code := { maxStack := 2, maxLocals := 1, code := prog_66_method_4_code, exceptionTable := #[], attributes := #[] }
def k6m0 : Method := { name := "isSubject", desc := "()Z", sig := { parameters := [], returnType := some .boolean }, accessFlags := 1, code := some k6c0 }

def k6 : Class := { plain site_81.cls (some 5) with
  accessFlags := 16433
  interfaces := #[]
  cf := some (fileOf pool6 1 #[] #[{ accessFlags := 1, nameIndex := 125, descriptorIndex := 126, attributes := #[] }] 16433 56 #[] #[{ accessFlags := 16409, nameIndex := 5, descriptorIndex := 6, attributes := #[] }, { accessFlags := 16409, nameIndex := 9, descriptorIndex := 6, attributes := #[] }, { accessFlags := 16409, nameIndex := 12, descriptorIndex := 6, attributes := #[] }, { accessFlags := 16409, nameIndex := 15, descriptorIndex := 6, attributes := #[] }, { accessFlags := 16409, nameIndex := 18, descriptorIndex := 6, attributes := #[] }, { accessFlags := 16409, nameIndex := 21, descriptorIndex := 6, attributes := #[] }, { accessFlags := 16409, nameIndex := 24, descriptorIndex := 6, attributes := #[] }, { accessFlags := 16409, nameIndex := 27, descriptorIndex := 6, attributes := #[] }, { accessFlags := 16409, nameIndex := 30, descriptorIndex := 6, attributes := #[] }, { accessFlags := 16409, nameIndex := 33, descriptorIndex := 6, attributes := #[] }, { accessFlags := 16409, nameIndex := 36, descriptorIndex := 6, attributes := #[] }, { accessFlags := 16409, nameIndex := 39, descriptorIndex := 6, attributes := #[] }, { accessFlags := 16409, nameIndex := 42, descriptorIndex := 6, attributes := #[] }, { accessFlags := 16409, nameIndex := 45, descriptorIndex := 6, attributes := #[] }, { accessFlags := 18, nameIndex := 67, descriptorIndex := 68, attributes := #[] }, { accessFlags := 4122, nameIndex := 48, descriptorIndex := 49, attributes := #[] }])
  fields := #[{ name := "ABSTRACT", type := (.object site_81.cls), accessFlags := 16409, slot := 0, constantValue := 0 }, { name := "BUS", type := (.object site_81.cls), accessFlags := 16409, slot := 1, constantValue := 0 }, { name := "DATA", type := (.object site_81.cls), accessFlags := 16409, slot := 2, constantValue := 0 }, { name := "DEVICE", type := (.object site_81.cls), accessFlags := 16409, slot := 3, constantValue := 0 }, { name := "MEMORY", type := (.object site_81.cls), accessFlags := 16409, slot := 4, constantValue := 0 }, { name := "PROCESS", type := (.object site_81.cls), accessFlags := 16409, slot := 5, constantValue := 0 }, { name := "PROCESSOR", type := (.object site_81.cls), accessFlags := 16409, slot := 6, constantValue := 0 }, { name := "SUBPROGRAM", type := (.object site_81.cls), accessFlags := 16409, slot := 7, constantValue := 0 }, { name := "SUBPROGRAM_GROUP", type := (.object site_81.cls), accessFlags := 16409, slot := 8, constantValue := 0 }, { name := "SYSTEM", type := (.object site_81.cls), accessFlags := 16409, slot := 9, constantValue := 0 }, { name := "THREAD", type := (.object site_81.cls), accessFlags := 16409, slot := 10, constantValue := 0 }, { name := "THREAD_GROUP", type := (.object site_81.cls), accessFlags := 16409, slot := 11, constantValue := 0 }, { name := "VIRTUAL_BUS", type := (.object site_81.cls), accessFlags := 16409, slot := 12, constantValue := 0 }, { name := "VIRTUAL_PROCESSOR", type := (.object site_81.cls), accessFlags := 16409, slot := 13, constantValue := 0 }, { name := "keywords", type := (.object "java/lang/String"), accessFlags := 18, slot := 3, constantValue := 0 }, { name := "$VALUES", type := (.array (.object site_81.cls)), accessFlags := 4122, slot := 14, constantValue := 0 }]
  methods := #[k6m0]
  instanceTypes := #[(.object "java/lang/String"), .int, .int, (.object "java/lang/String")]
  staticTypes := #[(.object site_81.cls), (.object site_81.cls), (.object site_81.cls), (.object site_81.cls), (.object site_81.cls), (.object site_81.cls), (.object site_81.cls), (.object site_81.cls), (.object site_81.cls), (.object site_81.cls), (.object site_81.cls), (.object site_81.cls), (.object site_81.cls), (.object site_81.cls), (.array (.object site_81.cls))]
  resolved := Array.replicate 135 none
  statics := some 0 }

def pool7 : Array CpInfo := pool [(1, u "java/lang/Cloneable"), (0, .class_ 1), (0, u "java/lang/Object"), (0, .class_ 3)] 3

/-- java/lang/Cloneable -/
def k7 : Class := { plain "java/lang/Cloneable" (some 0) with
  accessFlags := 1537
  interfaces := #[]
  cf := some (fileOf pool7 2 #[] #[] 1537 4 #[] #[])
  fields := #[]
  methods := #[]
  instanceTypes := #[]
  staticTypes := #[]
  resolved := Array.replicate 8 none
  statics := none }

/-- the primitive boolean -/
def k8 : Class := { plain "boolean" none with kind := .primitive 'Z', accessFlags := 0x411 }
/-- [Z -/
def k9 : Class := { plain "[Z" (some 0) with kind := .array 8 .boolean, interfaces := #[7, 4], accessFlags := 1041 }

/-- the primitive byte -/
def k10 : Class := { plain "byte" none with kind := .primitive 'B', accessFlags := 0x411 }
/-- [B -/
def k11 : Class := { plain "[B" (some 0) with kind := .array 10 .byte, interfaces := #[7, 4], accessFlags := 1041 }

/-- the primitive int -/
def k12 : Class := { plain "int" none with kind := .primitive 'I', accessFlags := 0x411 }
/-- [I -/
def k13 : Class := { plain "[I" (some 0) with kind := .array 12 .int, interfaces := #[7, 4], accessFlags := 1041 }

def heap : Heap := #[{ cls := 6, slots := #[.ref 1, .ref 2, .ref 3, .ref 4, .ref 5, .ref 6, .ref 7, .ref 8, .ref 9, .ref 10, .ref 11, .ref 12, .ref 13, .ref 14, .null], vm := .statics 6 },
  { cls := 6, slots := #[.null, .int 0, .int 0, .null], vm := .none },
  { cls := 6, slots := #[.null, .int 1, .int 0, .null], vm := .none },
  { cls := 6, slots := #[.null, .int 2, .int 0, .null], vm := .none },
  { cls := 6, slots := #[.null, .int 3, .int 0, .null], vm := .none },
  { cls := 6, slots := #[.null, .int 4, .int 0, .null], vm := .none },
  { cls := 6, slots := #[.null, .int 5, .int 0, .null], vm := .none },
  { cls := 6, slots := #[.null, .int 6, .int 0, .null], vm := .none },
  { cls := 6, slots := #[.null, .int 7, .int 0, .null], vm := .none },
  { cls := 6, slots := #[.null, .int 8, .int 0, .null], vm := .none },
  { cls := 6, slots := #[.null, .int 9, .int 0, .null], vm := .none },
  { cls := 6, slots := #[.null, .int 10, .int 0, .null], vm := .none },
  { cls := 6, slots := #[.null, .int 11, .int 0, .null], vm := .none },
  { cls := 6, slots := #[.null, .int 12, .int 0, .null], vm := .none },
  { cls := 6, slots := #[.null, .int 13, .int 0, .null], vm := .none }]
def classes : Array Class := #[k0, k1, k2, k3, k4, k5, k6, k7, k8, k9, k10, k11, k12, k13]
def interned : List (Array UInt16 × Addr) := []
def slotsUsed : Nat := 71
def theMethod : MethodId := ⟨1, 2⟩
def args0 : Array Value := #[.int 4]
def aboutOver (below : List Frame) : State where
  vm := { classes := classes, interned := interned.toArray }
  heap := heap
  slotsUsed := slotsUsed
  threads := #[{ frames := .invoking theMethod args0 :: below }]
def below0 : List Frame := [.native { method := ⟨0, 0⟩, args := #[] }]
def about1 : State := aboutOver below0
def p0 : Program := .bare "" "" ""
def e0 : Env := launch0.env 0 0 0
theorem w_frames : about1.frames = Frame.invoking theMethod args0 :: below0 := rfl
set_option maxRecDepth 65536 in
theorem w_args : argsFit about1.vm theMethod args0 = true := by decide +kernel
set_option maxRecDepth 65536 in
theorem w_heap : heapFits about1 = true := by decide +kernel
set_option maxRecDepth 65536 in
theorem w_runnable : about1.curStatus? = some .runnable := by decide +kernel
set_option maxRecDepth 65536 in
theorem w_alone : about1.alone = true := by decide +kernel
set_option maxRecDepth 65536 in
theorem w_named : about1.methodNamed? x = some theMethod := by decide +kernel
set_option maxRecDepth 65536 in
theorem w_hears : about1.hears theMethod below0 = true := by decide +kernel
set_option maxRecDepth 65536 in
theorem w_ripe : about1.ripe theMethod args0 below0 = true := by decide +kernel
theorem w_running : about1.status = .running := rfl
set_option maxRecDepth 65536 in
theorem w_room : about1.hasRoom e0.platform room_1 = true :=
  launch0.hasRoom_least _ room_1 (by decide +kernel) (by decide +kernel) (by decide +kernel) (by decide +kernel) (by decide +kernel) (by decide +kernel)
theorem allAtoms_all (ts : List Jvm.Cond) (a : Array Jvm.Value) (st : Jvm.State) : (allAtoms ts).before a st = ts.all (fun c => c.before a st) := by
  induction ts with
  | nil => rfl
  | cons c t ih =>
    show (Jvm.Cond.and c (allAtoms t)).before a st = _
    rw [Jvm.Cond.before_and, ih, List.all_cons]
def words1 : List Jvm.Cond := Jvm.Cond.code x code maxLocals ret :: tables_1
/-- a 'code' word, met by the world's own term for the bytes: nothing is compared byte by byte -/
theorem code_word {y : MethodName} {bytes : ByteArray} {mx : Nat} {rt : Option FieldType} {a : Array Value} {s : State} {m : MethodId} {meth : Method} {c : Code} (h1 : s.methodNamed? y = some m) (h2 : s.vm.method? m = some meth) (h3 : meth.code = some c) (h4 : c.code = bytes)
    (h5 : (c.maxLocals == mx && c.exceptionTable.isEmpty && decide (c.maxStack ≤ mostOperands) && decide (meth.sig.returnType = rt) && !meth.locks && decide (parseMethodDescriptor y.desc = some meth.sig)) = true) : (Jvm.Cond.code y bytes mx rt).before a s = true := by
  simp only [Bool.and_eq_true, beq_iff_eq, Bool.not_eq_true', decide_eq_true_eq] at h5
  obtain ⟨⟨⟨⟨⟨g1, g2⟩, g3⟩, g4⟩, g5⟩, g6⟩ := h5
  simp [Cond.before, Cond.holds, Cond.value, h1, h2, h3, h4, g1, g2, g3, g4, g5, g6]
def isCode : Jvm.Cond → Bool
  | .code _ _ _ _ => true
  | _ => false
theorem all_split {L : List Jvm.Cond} {P : Jvm.Cond → Bool} (h1 : L.all (fun c => isCode c || P c) = true) (h2 : ∀ c ∈ L.filter isCode, P c = true) : L.all P = true := by
  refine List.all_eq_true.mpr fun c hc => ?_
  have h := List.all_eq_true.mp h1 c hc
  rcases Bool.eq_false_or_eq_true (isCode c) with hi | hi
  · exact h2 c (List.mem_filter.mpr ⟨hc, hi⟩)
  · simpa [hi] using h
set_option maxRecDepth 65536 in
theorem w_c0 : (Jvm.Cond.code x code maxLocals ret).before args0 about1 = true := code_word (m := ⟨1, 2⟩) (meth := k1m2) (c := k1c2) (by decide +kernel) rfl rfl rfl (by decide +kernel)
set_option maxRecDepth 65536 in
theorem w_c1 : (Jvm.Cond.code ({ cls := x.cls, name := "pick", desc := site_78.desc } : Jvm.MethodName) method_2_code (1 : Nat) (Option.some (Jvm.ClassFile.FieldType.object site_81.cls))).before args0 about1 = true := code_word (m := ⟨1, 1⟩) (meth := k1m1) (c := k1c1) (by decide +kernel) rfl rfl rfl (by decide +kernel)
set_option maxRecDepth 65536 in
theorem w_c2 : (Jvm.Cond.code ({ cls := site_81.cls, name := "isSubject", desc := "()Z" } : Jvm.MethodName) prog_66_method_4_code (1 : Nat) (Option.some Jvm.ClassFile.FieldType.boolean)).before args0 about1 = true := code_word (m := ⟨6, 0⟩) (meth := k6m0) (c := k6c0) (by decide +kernel) rfl rfl rfl (by decide +kernel)
def codes1 : List Jvm.Cond := [Jvm.Cond.code x code maxLocals ret, Jvm.Cond.code ({ cls := x.cls, name := "pick", desc := site_78.desc } : Jvm.MethodName) method_2_code (1 : Nat) (Option.some (Jvm.ClassFile.FieldType.object site_81.cls)), Jvm.Cond.code ({ cls := site_81.cls, name := "isSubject", desc := "()Z" } : Jvm.MethodName) prog_66_method_4_code (1 : Nat) (Option.some Jvm.ClassFile.FieldType.boolean)]
set_option maxRecDepth 65536 in
theorem codes_eq : words1.filter isCode = codes1 := rfl
theorem w_codes : ∀ c ∈ words1.filter isCode, c.before args0 about1 = true := by
  rw [codes_eq]
  intro c hc
  simp only [codes1, List.mem_cons, List.not_mem_nil, or_false] at hc
  rcases hc with rfl | rfl | rfl
  · exact w_c0
  · exact w_c1
  · exact w_c2
set_option maxRecDepth 65536 in
theorem w_t1 : (words1.take 24).all (fun c => isCode c || c.before args0 about1) = true := by decide +kernel
set_option maxRecDepth 65536 in
theorem w_t2 : (words1.drop 24).all (fun c => isCode c || c.before args0 about1) = true := by decide +kernel
theorem w_tables : (allAtoms (Jvm.Cond.code x code maxLocals ret :: tables_1)).before args0 about1 = true := by
  rw [allAtoms_all]
  show words1.all (fun c => c.before args0 about1) = true
  refine all_split ?_ w_codes
  rw [← List.take_append_drop 24 words1, List.all_append, w_t1, w_t2]
  rfl
set_option maxRecDepth 65536 in
theorem w_case : (Jvm.Cond.and given_1 narrow_1).before args0 about1 = true := by decide +kernel
theorem w_applies : (headSpec (Jvm.Cond.code x code maxLocals ret :: tables_1) room_1).applies x e0.platform about1 = true :=
  (Spec.applies_iff w_frames).mpr ⟨w_running, w_runnable, w_alone, w_named, w_hears, w_ripe, w_room, w_tables⟩
theorem atStart : AtStart classFile x code maxLocals ret World_1 tables_1 room_1 Calls_1 rest_1 Pre_1 launch0 p0 e0 about1 theMethod args0 below0 :=
  ⟨lists_1, trivial, launch0.admits_env _ _ _, launch0.least_env, fairChoices_fair.cas, fairChoices_fair.clock, w_frames, w_args, w_heap, w_applies, trivial, trivial, w_case⟩
end start1
theorem witness_1 : WitnessClaimed_1 := ⟨start1.p0, start1.e0, start1.about1, start1.theMethod, start1.args0, start1.below0, start1.atStart⟩
end Jvm.Pilot.@@N@@
