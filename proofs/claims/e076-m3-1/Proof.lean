import JvmDerived
import JvmDerived.Pilot.@@N@@Statement
import JvmDerived.Pilot.@@N@@Code
set_option linter.unusedVariables false
set_option linter.unusedSimpArgs false
namespace Jvm.Pilot.@@N@@
open Jvm Jvm.ClassFile Sem Op Lib Jvm.Free Jvm.Stand Jvm.LawKit Jvm.RoadKit Bundle Jvm.Pilot.@@N@@.Jvm.D
section Own
variable {p : Program} {l : Launch} {e : Env} {R : Room} {s : State} {m : MethodId} {args : Array Value} {below : List Frame} {meth : Method} {c : Code} {Z : State} {a0 : Array Value} {n0 : Nat} {Q : Option Value → Heap → Prop} {h : Heap} {cells slots pc pc' : Nat} {Ls Ls' : Array Slot} {st st' rest : List Value} {bs : ByteArray} {own : String} {mL : Nat} {T : State} {locs : List Loc}
/-- what is fixed along the walk of one body -/
def Amb (bs : ByteArray) (own : String) (mL : Nat) (Z : State) (p : Program) (s : State) (m : MethodId) (c : Code) : Prop := p.tables.exec = Jvm.exec ∧ c.code = bs ∧ Z.Warmed39 s.vm ∧ s.vm.findClass own = some m.cls ∧ c.maxLocals = mL
/-- from here the body comes to its return, and Q holds there -/
def Goes (p : Program) (l : Launch) (e : Env) (R : Room) (s : State) (m : MethodId) (args : Array Value) (below : List Frame) (meth : Method) (c : Code) (n0 : Nat) (Q : Option Value → Heap → Prop) (h : Heap) (cells slots pc : Nat) (Ls : Array Slot) (st : List Value) : Prop :=
  ∀ (T : State) (locs : List Loc), Stand p l e R s m args below meth c T locs cells slots → Fr n0 locs → T.heap = h →
    ∃ (s₂ : State) (v : Option Value) (L : List Loc), Steps p.tables e below (T.setTop (mkF m pc Ls st)) s₂ ∧ s₂.status = .running ∧ Ended s₂ below (.returned v) ∧ Q v s₂.heap ∧ Fr n0 L ∧ FrameEnd s (.returned v) s₂ L R.cells R.slots
theorem Goes.step (f : ∀ (T : State) (locs : List Loc), Stand p l e R s m args below meth c T locs cells slots → T.heap = h → ∀ target, Steps p.tables e below (T.setTop (mkF m pc' Ls' st')) target → Steps p.tables e below (T.setTop (mkF m pc Ls st)) target)
    (nx : Goes p l e R s m args below meth c n0 Q h cells slots pc' Ls' st') : Goes p l e R s m args below meth c n0 Q h cells slots pc Ls st := by
  intro T locs X N eT
  obtain ⟨s₂, v, L, h1, r⟩ := nx T locs X N eT
  exact ⟨s₂, v, L, f T locs X eT _ h1, r⟩
/-- a step by a law that hands out a new standing place, the heap as it was -/
theorem Goes.stay (f : ∀ (T : State) (locs : List Loc), Stand p l e R s m args below meth c T locs cells slots → T.heap = h → ∃ T', Stand p l e R s m args below meth c T' locs cells slots ∧ T'.heap = h ∧ ∀ target, Steps p.tables e below (T'.setTop (mkF m pc' Ls' st')) target → Steps p.tables e below (T.setTop (mkF m pc Ls st)) target)
    (nx : Goes p l e R s m args below meth c n0 Q h cells slots pc' Ls' st') : Goes p l e R s m args below meth c n0 Q h cells slots pc Ls st := by
  intro T locs X N eT
  obtain ⟨T', X', eT', k⟩ := f T locs X eT
  obtain ⟨s₂, v, L, h1, r⟩ := nx T' locs X' N eT'
  exact ⟨s₂, v, L, k _ h1, r⟩
/-- one plain step: its length, the locals, the stack -/
def sim1 (i : Instr) (Ls : Array Slot) (st : List Value) : Option (Nat × Array Slot × List Value) :=
  match i with
  | .iload_n k => match Ls[k.val]? with | some (.val (.int v)) => some (1, Ls, .int v :: st) | _ => none
  | .iload k => match Ls[k]? with | some (.val (.int v)) => some (2, Ls, .int v :: st) | _ => none
  | .aload_n k => match Ls[k.val]? with | some (.val v) => if v.isRef = true then some (1, Ls, v :: st) else none | _ => none
  | .aload k => match Ls[k]? with | some (.val v) => if v.isRef = true then some (2, Ls, v :: st) else none | _ => none
  | .lload_n k => match Ls[k.val]? with | some (.val (.long v)) => some (1, Ls, .long v :: st) | _ => none
  | .lload k => match Ls[k]? with | some (.val (.long v)) => some (2, Ls, .long v :: st) | _ => none
  | .istore_n k => match st with | .int v :: r => (match storeLocals Ls k.val (.int v) with | some L => some (1, L, r) | none => none) | _ => none
  | .istore k => match st with | .int v :: r => (match storeLocals Ls k (.int v) with | some L => some (2, L, r) | none => none) | _ => none
  | .astore_n k => match st with | v :: r => if v.isRef = true then (match storeLocals Ls k.val v with | some L => some (1, L, r) | none => none) else none | _ => none
  | .astore k => match st with | v :: r => if v.isRef = true then (match storeLocals Ls k v with | some L => some (2, L, r) | none => none) else none | _ => none
  | .lstore_n k => match st with | .long v :: r => (match storeLocals Ls k.val (.long v) with | some L => some (1, L, r) | none => none) | _ => none
  | .lstore k => match st with | .long v :: r => (match storeLocals Ls k (.long v) with | some L => some (2, L, r) | none => none) | _ => none
  | .iconst i => some (1, Ls, .int (Int32.ofInt i) :: st)
  | .bipush i => some (2, Ls, .int (Int8.ofInt i).toInt32 :: st)
  | .sipush i => some (3, Ls, .int (Int16.ofInt i).toInt32 :: st)
  | .aconst_null => some (1, Ls, .null :: st)
  | .lconst k => some (1, Ls, .long (Int64.ofNat k.val) :: st)
  | .iadd => match st with | .int y :: .int x :: r => some (1, Ls, .int (x + y) :: r) | _ => none
  | .isub => match st with | .int y :: .int x :: r => some (1, Ls, .int (x - y) :: r) | _ => none
  | .iand => match st with | .int y :: .int x :: r => some (1, Ls, .int (x &&& y) :: r) | _ => none
  | .imul => match st with | .int y :: .int x :: r => some (1, Ls, .int (x * y) :: r) | _ => none
  | .ixor => match st with | .int y :: .int x :: r => some (1, Ls, .int (x ^^^ y) :: r) | _ => none
  | .ior => match st with | .int y :: .int x :: r => some (1, Ls, .int (x ||| y) :: r) | _ => none
  | .ishl => match st with | .int y :: .int x :: r => some (1, Ls, .int (x <<< (y &&& 31)) :: r) | _ => none
  | .ishr => match st with | .int y :: .int x :: r => some (1, Ls, .int (x >>> (y &&& 31)) :: r) | _ => none
  | .iushr => match st with | .int y :: .int x :: r => some (1, Ls, .int (XT.ushr x y) :: r) | _ => none
  | .ladd => match st with | .long y :: .long x :: r => some (1, Ls, .long (x + y) :: r) | _ => none
  | .lsub => match st with | .long y :: .long x :: r => some (1, Ls, .long (x - y) :: r) | _ => none
  | .land => match st with | .long y :: .long x :: r => some (1, Ls, .long (x &&& y) :: r) | _ => none
  | .lor => match st with | .long y :: .long x :: r => some (1, Ls, .long (x ||| y) :: r) | _ => none
  | .lxor => match st with | .long y :: .long x :: r => some (1, Ls, .long (x ^^^ y) :: r) | _ => none
  | .lshl => match st with | .int y :: .long x :: r => some (1, Ls, .long (x <<< (y.toInt64 &&& 63)) :: r) | _ => none
  | .lushr => match st with | .int y :: .long x :: r => some (1, Ls, .long (XT.ushrL x y) :: r) | _ => none
  | .lcmp => match st with | .long y :: .long x :: r => some (1, Ls, .int (XT.cmpL x y) :: r) | _ => none
  | .ineg => match st with | .int x :: r => some (1, Ls, .int (-x) :: r) | _ => none
  | .i2b => match st with | .int x :: r => some (1, Ls, .int x.toInt8.toInt32 :: r) | _ => none
  | .i2c => match st with | .int x :: r => some (1, Ls, .int x.toUInt32.toUInt16.toUInt32.toInt32 :: r) | _ => none
  | .i2l => match st with | .int x :: r => some (1, Ls, .long x.toInt64 :: r) | _ => none
  | .l2i => match st with | .long x :: r => some (1, Ls, .int x.toInt32 :: r) | _ => none
  | .lneg => match st with | .long x :: r => some (1, Ls, .long (-x) :: r) | _ => none
  | .dup => match st with | x :: r => if x.category = 1 then some (1, Ls, x :: x :: r) else none | _ => none
  | .pop => match st with | x :: r => if x.category = 1 then some (1, Ls, r) else none | _ => none
  | .dup_x1 => match st with | x :: y :: r => if x.category = 1 ∧ y.category = 1 then some (1, Ls, x :: y :: x :: r) else none | _ => none
  | .dup2 => match st with | x :: y :: r => if x.category = 1 ∧ y.category = 1 then some (1, Ls, x :: y :: x :: y :: r) else none | _ => none
  | .iinc k i => match Ls[k]? with | some (.val (.int x)) => (match storeLocals Ls k (.int (x + Int32.ofInt i)) with | some L => some (3, L, st) | none => none) | _ => none
  | _ => none
theorem sim1_ok (X : Stand p l e R s m args below meth c T locs cells slots) (hx : p.tables.exec = Jvm.exec) {i : Instr} {n : Nat} (hd : decode c.code pc = .ok (i, n)) (hs : sim1 i Ls st = some (n, Ls', st')) {target : State}
    (hr : Steps p.tables e below (T.setTop (mkF m (pc + n) Ls' st')) target) : Steps p.tables e below (T.setTop (mkF m pc Ls st)) target := by
  cases i
  case iload_n k =>
    simp only [sim1] at hs
    split at hs
    · rename_i v hv
      simp only [Option.some.injEq, Prod.mk.injEq] at hs
      obtain ⟨rfl, rfl, rfl⟩ := hs
      exact XS.iloadN X.here hx rfl hd hv hr
    · cases hs
  case iload k =>
    simp only [sim1] at hs
    split at hs
    · rename_i v hv
      simp only [Option.some.injEq, Prod.mk.injEq] at hs
      obtain ⟨rfl, rfl, rfl⟩ := hs
      exact XS.iload X.here hx rfl hd hv hr
    · cases hs
  case aload_n k =>
    simp only [sim1] at hs
    split at hs
    · rename_i v hv
      split at hs
      · rename_i hr2
        simp only [Option.some.injEq, Prod.mk.injEq] at hs
        obtain ⟨rfl, rfl, rfl⟩ := hs
        exact XS.aloadN X.here hx rfl hd hv hr2 hr
      · cases hs
    · cases hs
  case aload k =>
    simp only [sim1] at hs
    split at hs
    · rename_i v hv
      split at hs
      · rename_i hr2
        simp only [Option.some.injEq, Prod.mk.injEq] at hs
        obtain ⟨rfl, rfl, rfl⟩ := hs
        exact XS.aload X.here hx rfl hd hv hr2 hr
      · cases hs
    · cases hs
  case lload_n k =>
    simp only [sim1] at hs
    split at hs
    · rename_i v hv
      simp only [Option.some.injEq, Prod.mk.injEq] at hs
      obtain ⟨rfl, rfl, rfl⟩ := hs
      exact XT.lloadN X.here hx rfl hd hv hr
    · cases hs
  case lload k =>
    simp only [sim1] at hs
    split at hs
    · rename_i v hv
      simp only [Option.some.injEq, Prod.mk.injEq] at hs
      obtain ⟨rfl, rfl, rfl⟩ := hs
      exact XT.lload X.here hx rfl hd hv hr
    · cases hs
  case istore_n k =>
    simp only [sim1] at hs
    split at hs
    · rename_i v r
      split at hs
      · rename_i L hL
        simp only [Option.some.injEq, Prod.mk.injEq] at hs
        obtain ⟨rfl, rfl, rfl⟩ := hs
        exact XS.istoreN X.here hx rfl hd rfl hL hr
      · cases hs
    · cases hs
  case istore k =>
    simp only [sim1] at hs
    split at hs
    · rename_i v r
      split at hs
      · rename_i L hL
        simp only [Option.some.injEq, Prod.mk.injEq] at hs
        obtain ⟨rfl, rfl, rfl⟩ := hs
        exact XS.istore X.here hx rfl hd rfl hL hr
      · cases hs
    · cases hs
  case astore_n k =>
    simp only [sim1] at hs
    split at hs
    · rename_i v r
      split at hs
      · rename_i hr2
        split at hs
        · rename_i L hL
          simp only [Option.some.injEq, Prod.mk.injEq] at hs
          obtain ⟨rfl, rfl, rfl⟩ := hs
          exact XS.astoreN X.here hx rfl hd rfl hr2 hL hr
        · cases hs
      · cases hs
    · cases hs
  case astore k =>
    simp only [sim1] at hs
    split at hs
    · rename_i v r
      split at hs
      · rename_i hr2
        split at hs
        · rename_i L hL
          simp only [Option.some.injEq, Prod.mk.injEq] at hs
          obtain ⟨rfl, rfl, rfl⟩ := hs
          exact XS.astore X.here hx rfl hd rfl hr2 hL hr
        · cases hs
      · cases hs
    · cases hs
  case lstore_n k =>
    simp only [sim1] at hs
    split at hs
    · rename_i v r
      split at hs
      · rename_i L hL
        simp only [Option.some.injEq, Prod.mk.injEq] at hs
        obtain ⟨rfl, rfl, rfl⟩ := hs
        exact XT.lstoreN X.here hx rfl hd rfl hL hr
      · cases hs
    · cases hs
  case lstore k =>
    simp only [sim1] at hs
    split at hs
    · rename_i v r
      split at hs
      · rename_i L hL
        simp only [Option.some.injEq, Prod.mk.injEq] at hs
        obtain ⟨rfl, rfl, rfl⟩ := hs
        exact XT.lstore X.here hx rfl hd rfl hL hr
      · cases hs
    · cases hs
  case iconst i =>
    simp only [sim1, Option.some.injEq, Prod.mk.injEq] at hs
    obtain ⟨rfl, rfl, rfl⟩ := hs
    exact XS.iconst X.here hx rfl hd hr
  case bipush i =>
    simp only [sim1, Option.some.injEq, Prod.mk.injEq] at hs
    obtain ⟨rfl, rfl, rfl⟩ := hs
    exact XS.bipush X.here hx rfl hd hr
  case sipush i =>
    simp only [sim1, Option.some.injEq, Prod.mk.injEq] at hs
    obtain ⟨rfl, rfl, rfl⟩ := hs
    exact XS.sipush X.here hx rfl hd hr
  case aconst_null =>
    simp only [sim1, Option.some.injEq, Prod.mk.injEq] at hs
    obtain ⟨rfl, rfl, rfl⟩ := hs
    exact XS.aconstNull X.here hx rfl hd hr
  case lconst k =>
    simp only [sim1, Option.some.injEq, Prod.mk.injEq] at hs
    obtain ⟨rfl, rfl, rfl⟩ := hs
    exact XT.lconst X.here hx rfl hd hr
  case iadd =>
    simp only [sim1] at hs
    split at hs
    · rename_i y x r
      simp only [Option.some.injEq, Prod.mk.injEq] at hs
      obtain ⟨rfl, rfl, rfl⟩ := hs
      exact XS.iadd X.here hx rfl hd rfl hr
    · cases hs
  case isub =>
    simp only [sim1] at hs
    split at hs
    · rename_i y x r
      simp only [Option.some.injEq, Prod.mk.injEq] at hs
      obtain ⟨rfl, rfl, rfl⟩ := hs
      exact XS.isub X.here hx rfl hd rfl hr
    · cases hs
  case iand =>
    simp only [sim1] at hs
    split at hs
    · rename_i y x r
      simp only [Option.some.injEq, Prod.mk.injEq] at hs
      obtain ⟨rfl, rfl, rfl⟩ := hs
      exact XS.iand X.here hx rfl hd rfl hr
    · cases hs
  case imul =>
    simp only [sim1] at hs
    split at hs
    · rename_i y x r
      simp only [Option.some.injEq, Prod.mk.injEq] at hs
      obtain ⟨rfl, rfl, rfl⟩ := hs
      exact XS.imul X.here hx rfl hd rfl hr
    · cases hs
  case ixor =>
    simp only [sim1] at hs
    split at hs
    · rename_i y x r
      simp only [Option.some.injEq, Prod.mk.injEq] at hs
      obtain ⟨rfl, rfl, rfl⟩ := hs
      exact XT.ixor X.here hx rfl hd rfl hr
    · cases hs
  case ior =>
    simp only [sim1] at hs
    split at hs
    · rename_i y x r
      simp only [Option.some.injEq, Prod.mk.injEq] at hs
      obtain ⟨rfl, rfl, rfl⟩ := hs
      exact XT.ior X.here hx rfl hd rfl hr
    · cases hs
  case ishl =>
    simp only [sim1] at hs
    split at hs
    · rename_i y x r
      simp only [Option.some.injEq, Prod.mk.injEq] at hs
      obtain ⟨rfl, rfl, rfl⟩ := hs
      exact XT.ishl X.here hx rfl hd rfl hr
    · cases hs
  case ishr =>
    simp only [sim1] at hs
    split at hs
    · rename_i y x r
      simp only [Option.some.injEq, Prod.mk.injEq] at hs
      obtain ⟨rfl, rfl, rfl⟩ := hs
      exact XT.ishr X.here hx rfl hd rfl hr
    · cases hs
  case iushr =>
    simp only [sim1] at hs
    split at hs
    · rename_i y x r
      simp only [Option.some.injEq, Prod.mk.injEq] at hs
      obtain ⟨rfl, rfl, rfl⟩ := hs
      exact XT.iushr X.here hx rfl hd rfl hr
    · cases hs
  case ladd =>
    simp only [sim1] at hs
    split at hs
    · rename_i y x r
      simp only [Option.some.injEq, Prod.mk.injEq] at hs
      obtain ⟨rfl, rfl, rfl⟩ := hs
      exact XT.ladd X.here hx rfl hd rfl hr
    · cases hs
  case lsub =>
    simp only [sim1] at hs
    split at hs
    · rename_i y x r
      simp only [Option.some.injEq, Prod.mk.injEq] at hs
      obtain ⟨rfl, rfl, rfl⟩ := hs
      exact XT.lsub X.here hx rfl hd rfl hr
    · cases hs
  case land =>
    simp only [sim1] at hs
    split at hs
    · rename_i y x r
      simp only [Option.some.injEq, Prod.mk.injEq] at hs
      obtain ⟨rfl, rfl, rfl⟩ := hs
      exact XT.land X.here hx rfl hd rfl hr
    · cases hs
  case lor =>
    simp only [sim1] at hs
    split at hs
    · rename_i y x r
      simp only [Option.some.injEq, Prod.mk.injEq] at hs
      obtain ⟨rfl, rfl, rfl⟩ := hs
      exact XT.lor X.here hx rfl hd rfl hr
    · cases hs
  case lxor =>
    simp only [sim1] at hs
    split at hs
    · rename_i y x r
      simp only [Option.some.injEq, Prod.mk.injEq] at hs
      obtain ⟨rfl, rfl, rfl⟩ := hs
      exact XT.lxor X.here hx rfl hd rfl hr
    · cases hs
  case lshl =>
    simp only [sim1] at hs
    split at hs
    · rename_i y x r
      simp only [Option.some.injEq, Prod.mk.injEq] at hs
      obtain ⟨rfl, rfl, rfl⟩ := hs
      exact XT.lshl X.here hx rfl hd rfl hr
    · cases hs
  case lushr =>
    simp only [sim1] at hs
    split at hs
    · rename_i y x r
      simp only [Option.some.injEq, Prod.mk.injEq] at hs
      obtain ⟨rfl, rfl, rfl⟩ := hs
      exact XT.lushr X.here hx rfl hd rfl hr
    · cases hs
  case lcmp =>
    simp only [sim1] at hs
    split at hs
    · rename_i y x r
      simp only [Option.some.injEq, Prod.mk.injEq] at hs
      obtain ⟨rfl, rfl, rfl⟩ := hs
      exact XT.lcmp X.here hx rfl hd rfl hr
    · cases hs
  case ineg =>
    simp only [sim1] at hs
    split at hs
    · rename_i x r
      simp only [Option.some.injEq, Prod.mk.injEq] at hs
      obtain ⟨rfl, rfl, rfl⟩ := hs
      exact XS.ineg X.here hx rfl hd rfl hr
    · cases hs
  case i2b =>
    simp only [sim1] at hs
    split at hs
    · rename_i x r
      simp only [Option.some.injEq, Prod.mk.injEq] at hs
      obtain ⟨rfl, rfl, rfl⟩ := hs
      exact XT.i2b X.here hx rfl hd rfl hr
    · cases hs
  case i2c =>
    simp only [sim1] at hs
    split at hs
    · rename_i x r
      simp only [Option.some.injEq, Prod.mk.injEq] at hs
      obtain ⟨rfl, rfl, rfl⟩ := hs
      exact XT.i2c X.here hx rfl hd rfl hr
    · cases hs
  case i2l =>
    simp only [sim1] at hs
    split at hs
    · rename_i x r
      simp only [Option.some.injEq, Prod.mk.injEq] at hs
      obtain ⟨rfl, rfl, rfl⟩ := hs
      exact XT.i2l X.here hx rfl hd rfl hr
    · cases hs
  case l2i =>
    simp only [sim1] at hs
    split at hs
    · rename_i x r
      simp only [Option.some.injEq, Prod.mk.injEq] at hs
      obtain ⟨rfl, rfl, rfl⟩ := hs
      exact XT.l2i X.here hx rfl hd rfl hr
    · cases hs
  case lneg =>
    simp only [sim1] at hs
    split at hs
    · rename_i x r
      simp only [Option.some.injEq, Prod.mk.injEq] at hs
      obtain ⟨rfl, rfl, rfl⟩ := hs
      exact XT.lneg X.here hx rfl hd rfl hr
    · cases hs
  case dup =>
    simp only [sim1] at hs
    split at hs
    · rename_i x r
      split at hs
      · rename_i hr2
        simp only [Option.some.injEq, Prod.mk.injEq] at hs
        obtain ⟨rfl, rfl, rfl⟩ := hs
        exact XS.dup X.here hx rfl hd rfl hr2 hr
      · cases hs
    · cases hs
  case pop =>
    simp only [sim1] at hs
    split at hs
    · rename_i x r
      split at hs
      · rename_i hr2
        simp only [Option.some.injEq, Prod.mk.injEq] at hs
        obtain ⟨rfl, rfl, rfl⟩ := hs
        exact XT.pop X.here hx rfl hd rfl hr2 hr
      · cases hs
    · cases hs
  case dup_x1 =>
    simp only [sim1] at hs
    split at hs
    · rename_i x y r
      split at hs
      · rename_i hr2
        simp only [Option.some.injEq, Prod.mk.injEq] at hs
        obtain ⟨rfl, rfl, rfl⟩ := hs
        exact XT.dupX1 X.here hx rfl hd rfl hr2.1 hr2.2 hr
      · cases hs
    · cases hs
  case dup2 =>
    simp only [sim1] at hs
    split at hs
    · rename_i x y r
      split at hs
      · rename_i hr2
        simp only [Option.some.injEq, Prod.mk.injEq] at hs
        obtain ⟨rfl, rfl, rfl⟩ := hs
        exact XT.dup2 X.here hx rfl hd rfl hr2.1 hr2.2 hr
      · cases hs
    · cases hs
  case iinc k i =>
    simp only [sim1] at hs
    split at hs
    · rename_i x hv
      split at hs
      · rename_i L hL
        simp only [Option.some.injEq, Prod.mk.injEq] at hs
        obtain ⟨rfl, rfl, rfl⟩ := hs
        exact XS.iinc X.here hx rfl hd hv hL hr
      · cases hs
    · cases hs
  all_goals (simp only [sim1, reduceCtorEq] at hs)
def simL : List (Instr × Nat) → Nat → Array Slot → List Value → Option (Nat × Array Slot × List Value)
  | [], pc, Ls, st => some (pc, Ls, st)
  | q :: r, pc, Ls, st => match sim1 q.1 Ls st with
    | some (n, L, t) => if n = q.2 then simL r (pc + n) L t else none
    | none => none
def decL (bs : ByteArray) : List (Instr × Nat) → Nat → Bool
  | [], _ => true
  | q :: r, pc => decide (decode bs pc = .ok q) && decL bs r (pc + q.2)
theorem simL_ok (X : Stand p l e R s m args below meth c T locs cells slots) (hx : p.tables.exec = Jvm.exec) {target : State} : ∀ (is : List (Instr × Nat)) (pc : Nat) (Ls : Array Slot) (st : List Value), decL c.code is pc = true → simL is pc Ls st = some (pc', Ls', st') → Steps p.tables e below (T.setTop (mkF m pc' Ls' st')) target → Steps p.tables e below (T.setTop (mkF m pc Ls st)) target
  | [], pc, Ls, st, _, h2, h3 => by
    simp only [simL, Option.some.injEq, Prod.mk.injEq] at h2
    obtain ⟨rfl, rfl, rfl⟩ := h2
    exact h3
  | q :: r, pc, Ls, st, h1, h2, h3 => by
    simp only [decL, Bool.and_eq_true, decide_eq_true_eq] at h1
    simp only [simL] at h2
    split at h2
    · rename_i n L t hs
      split at h2
      · rename_i hn
        subst hn
        exact sim1_ok X hx h1.1 hs (simL_ok X hx r _ L t h1.2 h2 h3)
      · cases h2
    · cases h2
theorem Goes.blk (A : Amb bs own mL Z p s m c) (is : List (Instr × Nat)) (h1 : decL bs is pc = true) (h2 : simL is pc Ls st = some (pc', Ls', st')) (nx : Goes p l e R s m args below meth c n0 Q h cells slots pc' Ls' st') : Goes p l e R s m args below meth c n0 Q h cells slots pc Ls st :=
  Goes.step (fun T locs X _ target k => simL_ok X A.1 is pc Ls st (by rw [A.2.1]; exact h1) h2 k) nx
theorem Goes.jump (A : Amb bs own mL Z p s m c) {o : Int} (hd : decode bs pc = .ok (.goto o, 3)) (ho : 0 ≤ (pc : Int) + o) (hp : ((pc : Int) + o).toNat = pc') (nx : Goes p l e R s m args below meth c n0 Q h cells slots pc' Ls st) : Goes p l e R s m args below meth c n0 Q h cells slots pc Ls st :=
  Goes.step (fun T locs X _ target k => XS.goto X.here A.1 rfl rfl (hb A.2.1 hd) ho hp k) nx
/-- what a comparison says, in the whole numbers -/
def cP : ClassFile.Cond → Int32 → Int32 → Prop
  | .eq, x, y => x = y
  | .ne, x, y => ¬ x = y
  | .lt, x, y => x.toInt < y.toInt
  | .ge, x, y => y.toInt ≤ x.toInt
  | .gt, x, y => y.toInt < x.toInt
  | .le, x, y => x.toInt ≤ y.toInt
theorem cP_iff (cd : ClassFile.Cond) (x y : Int32) : if_icmp.holds cd x y = true ↔ cP cd x y := by
  cases cd <;> simp [if_icmp.holds, cP, Int32.lt_iff_toInt_lt, Int32.le_iff_toInt_le]
theorem cP_not {cd : ClassFile.Cond} {x y : Int32} (hn : ¬ cP cd x y) : if_icmp.holds cd x y = false := by
  rw [← cP_iff] at hn; simpa using hn
theorem cP_f {cd : ClassFile.Cond} {x y : Int32} (q : if_icmp.holds cd x y = false) : ¬ cP cd x y := fun hc => by rw [(cP_iff cd x y).mpr hc] at q; cases q
theorem cP_t {cd : ClassFile.Cond} {x y : Int32} (q : if_icmp.holds cd x y = true) : cP cd x y := (cP_iff cd x y).mp q
def cI : ClassFile.Cond → Int → Int → Prop
  | .eq, x, y => x = y
  | .ne, x, y => ¬ x = y
  | .lt, x, y => x < y
  | .ge, x, y => y ≤ x
  | .gt, x, y => y < x
  | .le, x, y => x ≤ y
theorem cP_int {cd : ClassFile.Cond} {x y : Int32} (q : cP cd x y) : cI cd x.toInt y.toInt := by
  cases cd <;> simp only [cP, cI] at q ⊢ <;> first | exact q | exact Int32.toInt_inj.mpr q | exact fun z => q (Int32.toInt_inj.mp z)
theorem cP_nint {cd : ClassFile.Cond} {x y : Int32} (q : ¬ cP cd x y) : ¬ cI cd x.toInt y.toInt := by
  cases cd <;> simp only [cP, cI] at q ⊢ <;> first | exact q | exact fun z => q (Int32.toInt_inj.mp z) | exact fun z => q fun w => z (Int32.toInt_inj.mpr w)
theorem Goes.if1 (A : Amb bs own mL Z p s m c) {cd : ClassFile.Cond} {o : Int} {x : Int32} (hd : decode bs pc = .ok (.ifCond cd o, 3)) (ho : 0 ≤ (pc : Int) + o) (hp : ((pc : Int) + o).toNat = pc') (ny : cP cd x 0 → Goes p l e R s m args below meth c n0 Q h cells slots pc' Ls st) (nn : ¬ cP cd x 0 → Goes p l e R s m args below meth c n0 Q h cells slots (pc + 3) Ls st) : Goes p l e R s m args below meth c n0 Q h cells slots pc Ls (.int x :: st) := by
  by_cases q : cP cd x 0
  · exact Goes.step (fun T locs X _ target k => XS.ifYes X.here A.1 rfl rfl (hb A.2.1 hd) rfl ((if0 _ _).trans ((cP_iff _ _ _).mpr q)) ho hp k) (ny q)
  · exact Goes.step (fun T locs X _ target k => XS.ifNo X.here A.1 rfl (hb A.2.1 hd) rfl ((if0 _ _).trans (cP_not q)) k) (nn q)
theorem Goes.if2 (A : Amb bs own mL Z p s m c) {cd : ClassFile.Cond} {o : Int} {x y : Int32} (hd : decode bs pc = .ok (.if_icmp cd o, 3)) (ho : 0 ≤ (pc : Int) + o) (hp : ((pc : Int) + o).toNat = pc') (ny : cP cd x y → Goes p l e R s m args below meth c n0 Q h cells slots pc' Ls st) (nn : ¬ cP cd x y → Goes p l e R s m args below meth c n0 Q h cells slots (pc + 3) Ls st) : Goes p l e R s m args below meth c n0 Q h cells slots pc Ls (.int y :: .int x :: st) := by
  by_cases q : cP cd x y
  · exact Goes.step (fun T locs X _ target k => XS.icmpYes X.here A.1 rfl rfl (hb A.2.1 hd) rfl ((cP_iff _ _ _).mpr q) ho hp k) (ny q)
  · exact Goes.step (fun T locs X _ target k => XS.icmpNo X.here A.1 rfl (hb A.2.1 hd) rfl (cP_not q) k) (nn q)
def aP : ClassFile.ACond → Value → Value → Prop
  | .eq, x, y => x = y
  | .ne, x, y => ¬ x = y
theorem Goes.ifA (A : Amb bs own mL Z p s m c) {cd : ClassFile.ACond} {o : Int} {x y : Value} (hd : decode bs pc = .ok (.if_acmp cd o, 3)) (hx1 : x.isRef = true) (hy1 : y.isRef = true) (ho : 0 ≤ (pc : Int) + o) (hp : ((pc : Int) + o).toNat = pc') (ny : aP cd x y → Goes p l e R s m args below meth c n0 Q h cells slots pc' Ls st) (nn : ¬ aP cd x y → Goes p l e R s m args below meth c n0 Q h cells slots (pc + 3) Ls st) : Goes p l e R s m args below meth c n0 Q h cells slots pc Ls (y :: x :: st) := by
  by_cases q : aP cd x y
  · exact Goes.step (fun T locs X _ target k => XT.acmpYes X.here A.1 rfl rfl (hb A.2.1 hd) rfl hx1 hy1 (by cases cd <;> simpa [XT.acmp, aP] using q) ho hp k) (ny q)
  · exact Goes.step (fun T locs X _ target k => XT.acmpNo X.here A.1 rfl (hb A.2.1 hd) rfl hx1 hy1 (by cases cd <;> simpa [XT.acmp, aP] using q) k) (nn q)
theorem Goes.ifNullY (A : Amb bs own mL Z p s m c) {o : Int} (hd : decode bs pc = .ok (.ifnull o, 3)) (ho : 0 ≤ (pc : Int) + o) (hp : ((pc : Int) + o).toNat = pc') (nx : Goes p l e R s m args below meth c n0 Q h cells slots pc' Ls st) : Goes p l e R s m args below meth c n0 Q h cells slots pc Ls (.null :: st) :=
  Goes.step (fun T locs X _ target k => XS.ifnullYes X.here A.1 rfl rfl (hb A.2.1 hd) rfl ho hp k) nx
theorem Goes.ifNullN (A : Amb bs own mL Z p s m c) {o : Int} {b : Addr} (hd : decode bs pc = .ok (.ifnull o, 3)) (nx : Goes p l e R s m args below meth c n0 Q h cells slots (pc + 3) Ls st) : Goes p l e R s m args below meth c n0 Q h cells slots pc Ls (.ref b :: st) :=
  Goes.step (fun T locs X _ target k => XS.ifnullNo X.here A.1 rfl (hb A.2.1 hd) rfl k) nx
theorem Goes.ifNonN (A : Amb bs own mL Z p s m c) {o : Int} (hd : decode bs pc = .ok (.ifnonnull o, 3)) (nx : Goes p l e R s m args below meth c n0 Q h cells slots (pc + 3) Ls st) : Goes p l e R s m args below meth c n0 Q h cells slots pc Ls (.null :: st) :=
  Goes.step (fun T locs X _ target k => XT.ifnonnullNo X.here A.1 rfl (hb A.2.1 hd) rfl k) nx
theorem Goes.ifNonY (A : Amb bs own mL Z p s m c) {o : Int} {b : Addr} (hd : decode bs pc = .ok (.ifnonnull o, 3)) (ho : 0 ≤ (pc : Int) + o) (hp : ((pc : Int) + o).toNat = pc') (nx : Goes p l e R s m args below meth c n0 Q h cells slots pc' Ls st) : Goes p l e R s m args below meth c n0 Q h cells slots pc Ls (.ref b :: st) :=
  Goes.step (fun T locs X _ target k => XT.ifnonnullYes X.here A.1 rfl rfl (hb A.2.1 hd) rfl ho hp k) nx
theorem Goes.irem (A : Amb bs own mL Z p s m c) {x y : Int32} (hd : decode bs pc = .ok (.irem, 1)) (hy : y ≠ 0) (nx : Goes p l e R s m args below meth c n0 Q h cells slots (pc + 1) Ls (.int (x % y) :: st)) : Goes p l e R s m args below meth c n0 Q h cells slots pc Ls (.int y :: .int x :: st) :=
  Goes.step (fun T locs X _ target k => iremM X A.1 rfl (hb A.2.1 hd) rfl hy k) nx
theorem Goes.ldcI (A : Amb bs own mL Z p s m c) {index : Nat} {v : Int32} (w : (Cond.constant own index v).before a0 Z = true) (hd : decode bs pc = .ok (.ldc index, 2)) (nx : Goes p l e R s m args below meth c n0 Q h cells slots (pc + 2) Ls (.int v :: st)) : Goes p l e R s m args below meth c n0 Q h cells slots pc Ls st :=
  Goes.step (fun T locs X _ target k => Jvm.Stand.ldcI X A.1 A.2.2.2.1 (mvT A.2.2.1 w) rfl (hb A.2.1 hd) k) nx
theorem Goes.swIn (A : Amb bs own mL Z p s m c) {dflt low high : Int} {offs : Array Int} {len : Nat} {o : Int} {i : Int32} (hd : decode bs pc = .ok (.tableswitch dflt low high offs, len)) (hin : ¬ (i.toInt < low ∨ i.toInt > high)) (hoff : offs[(i.toInt - low).toNat]? = some o) (ho : 0 ≤ (pc : Int) + o) (hp : ((pc : Int) + o).toNat = pc') (nx : Goes p l e R s m args below meth c n0 Q h cells slots pc' Ls st) : Goes p l e R s m args below meth c n0 Q h cells slots pc Ls (.int i :: st) :=
  Goes.step (fun T locs X _ target k => XS.tswIn X.here A.1 rfl rfl (hb A.2.1 hd) rfl hin hoff ho hp k) nx
theorem Goes.getS (A : Amb bs own mL Z p s m c) {R0 O n d : String} {index : Nat} {v : Value} (w : (Cond.fieldLink own index R0 n d).before a0 Z = true) (via : Via Z R0 O n d) (F : Sta Z h O n d v) (hd : decode bs pc = .ok (.getstatic index, 3)) (nx : Goes p l e R s m args below meth c n0 Q h cells slots (pc + 3) Ls (v :: st)) : Goes p l e R s m args below meth c n0 Q h cells slots pc Ls st :=
  Goes.stay (fun T locs X eT => Jvm.RoadKit.getS (host := "") (g := mkF m pc Ls st) X A.1 A.2.2.1 A.2.2.2.1 w via eT F rfl (hb A.2.1 hd)) nx
theorem Goes.getF (A : Amb bs own mL Z p s m c) {R0 O n d : String} {index : Nat} {v : Value} {a : Addr} (w : (Cond.fieldLink own index R0 n d).before a0 Z = true) (via : Via Z R0 O n d) (F : Fld Z h a O n d v) (hd : decode bs pc = .ok (.getfield index, 3)) (nx : Goes p l e R s m args below meth c n0 Q h cells slots (pc + 3) Ls (v :: st)) : Goes p l e R s m args below meth c n0 Q h cells slots pc Ls (.ref a :: st) :=
  Goes.stay (fun T locs X eT => Jvm.RoadKit.getF (host := "") (g := mkF m pc Ls (.ref a :: st)) X A.1 A.2.2.1 A.2.2.2.1 (Or.inl w) via eT F rfl rfl (hb A.2.1 hd)) nx
theorem Goes.retV (A : Amb bs own mL Z p s m c) (hret : meth.sig.returnType = none) (hlk : meth.locks = false) (hd : decode bs pc = .ok (.return_, 1)) (hc : cells ≤ R.cells) (hs : slots ≤ R.slots) (hQ : Q none h) : Goes p l e R s m args below meth c n0 Q h cells slots pc Ls [] := by
  intro T locs X N eT
  obtain ⟨fs, hr, hrun, hended, hW, hsame⟩ := X.leave (v := none) (fun _ => rfl) hlk
  exact ⟨_, none, locs, X.returnOut A.1 hret (hb A.2.1 hd) hr, hrun, hended, (by subst eT; exact hQ), N, ⟨_, rfl⟩, hW, hsame.mono hc hs⟩
theorem Goes.retB (A : Amb bs own mL Z p s m c) {t : FieldType} {z z' : Int32} (hret : meth.sig.returnType = some t) (ht : t = .boolean ∨ t = .byte ∨ t = .char ∨ t = .short) (hlk : meth.locks = false) (hd : decode bs pc = .ok (.ireturn, 1)) (hn : nar t z = z') (hc : cells ≤ R.cells) (hs : slots ≤ R.slots) (hQ : Q (some (.int z')) h) : Goes p l e R s m args below meth c n0 Q h cells slots pc Ls (.int z :: st) := by
  subst hn
  intro T locs X N eT
  obtain ⟨fs, hr, hrun, hended, hW, hsame⟩ := X.leave (v := some (.int (nar t z))) (fun q => by rw [hret] at q; cases q) hlk
  exact ⟨_, some (.int (nar t z)), locs, retN X A.1 hret ht (hb A.2.1 hd) hr, hrun, hended, (by subst eT; exact hQ), N, ⟨_, rfl⟩, hW, hsame.mono hc hs⟩
theorem Goes.retI (A : Amb bs own mL Z p s m c) {z : Int32} (hret : meth.sig.returnType = some .int) (hlk : meth.locks = false) (hd : decode bs pc = .ok (.ireturn, 1)) (hc : cells ≤ R.cells) (hs : slots ≤ R.slots) (hQ : Q (some (.int z)) h) : Goes p l e R s m args below meth c n0 Q h cells slots pc Ls (.int z :: st) := by
  intro T locs X N eT
  obtain ⟨fs, hr, hrun, hended, hW, hsame⟩ := X.leave (v := some (.int z)) (fun q => by rw [hret] at q; cases q) hlk
  exact ⟨_, some (.int z), locs, retOut X A.1 hret rfl (Or.inl ⟨rfl, Or.inl rfl, z, rfl⟩) (hb A.2.1 hd) hr, hrun, hended, (by subst eT; exact hQ), N, ⟨_, rfl⟩, hW, hsame.mono hc hs⟩
theorem Goes.retA (A : Amb bs own mL Z p s m c) {t : FieldType} {v : Value} (hret : meth.sig.returnType = some t) (ht : t.isReference = true) (hv : v.isRef = true) (hn : narrow t v = v) (hlk : meth.locks = false) (hd : decode bs pc = .ok (.areturn, 1)) (hc : cells ≤ R.cells) (hs : slots ≤ R.slots) (hQ : Q (some v) h) : Goes p l e R s m args below meth c n0 Q h cells slots pc Ls (v :: st) := by
  intro T locs X N eT
  obtain ⟨fs, hr, hrun, hended, hW, hsame⟩ := X.leave (v := some v) (fun q => by rw [hret] at q; cases q) hlk
  exact ⟨_, some v, locs, retOut X A.1 hret hn (Or.inr (Or.inr (Or.inr (Or.inr ⟨rfl, ht, hv⟩)))) (hb A.2.1 hd) hr, hrun, hended, (by subst eT; exact hQ), N, ⟨_, rfl⟩, hW, hsame.mono hc hs⟩
/-- a body's contract: called with these arguments at this heap it returns, and Qc holds; what it writes lies at or above n0 -/
def Con (l : Launch) (Z : State) (n0 : Nat) (y : MethodName) (bs : ByteArray) (mL : Nat) (ret : Option FieldType) (rm : Room) (as : Array Value) (h : Heap) (Qc : Option Value → Heap → Prop) : Prop :=
  ∀ ws : List Jvm.Cond, MetFree l y (head1 (Jvm.Cond.code y bs mL ret :: ws) rm) (fun a U => a = as ∧ Z.Warmed39 U.vm ∧ U.heap = h) (fun _ _ _ _ _ => True) (fun _ U o U' => ∃ v L, o = .returned v ∧ (Qc v U'.heap ∧ Fr n0 L) ∧ FrameEnd U o U' L rm.cells rm.slots)
theorem Con.mk {y : MethodName} {ret : Option FieldType} {as : Array Value} {rm : Room} (hpn : plainName y.cls = true) (hef : ∀ m, entryFrame m as mL = mkF m 0 Ls [])
    (body : ∀ (p : Program) (e : Env) (s : State) (m : MethodId) (below : List Frame) (meth : Method) (c : Code), Amb bs y.cls mL Z p s m c → meth.sig.returnType = ret → meth.locks = false → meth.name = y.name → Goes p l e rm s m as below meth c n0 Q h 0 0 0 Ls []) : Con l Z n0 y bs mL ret rm as h Q := by
  intro ws
  refine MetFree.of_bodySF (plainFor_of_name hpn) hisR ?_
  intro p e s m args below meth c s₁ Bd hml0 hP hK
  obtain ⟨rfl, hZ, hh⟩ := hP
  have X0 : Stand p l e rm s m _ below meth c s₁ [] 0 0 := Stand.of_body Bd
  have e0 : s₁.heap = h := by rw [← hh, Bd.state]; rfl
  obtain ⟨s₂, v, L, h1, h2, h3, h4, h5, h6⟩ := body p e s m below meth c ⟨Bd.exec, Bd.bytes, hZ, findClass_of_methodNamed Bd.named, hml0⟩ Bd.returns (BodyLoose.notSynchronized Bd) (name_of_methodNamed Bd.named Bd.method).1 s₁ [] X0 (Fr.nil _) e0
  exact ⟨s₂, _, castTop (hef m) h1, h2, h3, v, L, rfl, ⟨h4, h5⟩, h6⟩
theorem Con.mono {y : MethodName} {ret : Option FieldType} {as : Array Value} {rm : Room} {Q' : Option Value → Heap → Prop} (K : Con l Z n0 y bs mL ret rm as h Q) (f : ∀ v h', Q v h' → Q' v h') : Con l Z n0 y bs mL ret rm as h Q' := by
  intro ws p e h1 h2 h3 s m args below h4 h5 h6 h7
  obtain ⟨n, o, g1, g2, g3, v, L, g4, g5, g6⟩ := K ws p e h1 h2 h3 s m args below h4 h5 h6 h7
  exact ⟨n, o, g1, g2, g3, v, L, g4, ⟨f _ _ g5.1, g5.2⟩, g6⟩
theorem Goes.static (A : Amb bs own mL Z p s m c) {index : Nat} {y : MethodName} {bc : ByteArray} {mC W : Nat} {ret : Option FieldType} {rm : Room} {argsL : List Value} {Qc : Option Value → Heap → Prop} {ps : List FieldType} {r : Option FieldType}
    (hlink : (Jvm.Cond.methodLink own index y).before a0 Z = true) (hstat : (Jvm.Cond.static y).before a0 Z = true) (hinit : (Jvm.Cond.initialized y.cls).before a0 Z = true) (hcode : (Jvm.Cond.code y bc mC ret).before a0 Z = true)
    (hd : decode bs pc = .ok (.invokestatic index, 3)) (hlen : parseMethodDescriptor y.desc = some ⟨ps, r⟩) (hy : y.cls ≠ "java/lang/invoke/MethodHandle" ∧ y.cls ≠ "java/lang/invoke/VarHandle")
    (hl : argsL.length = ps.length) (hst : st = argsL.reverse ++ rest) (hsz : Ls.size = mL) (hW : (rest.map fun v => v.category).sum ≤ W)
    (hf : rm.frames + 1 ≤ R.frames) (hlo : W + (mC + 11) + rm.locals ≤ R.locals) (hcl : cells + rm.cells ≤ R.cells) (hsl : slots + rm.slots ≤ R.slots)
    (K : Con l Z n0 y bc mC ret rm argsL.toArray h Qc)
    (nx : ∀ (v : Option Value) (h' : Heap), Qc v h' → Goes p l e R s m args below meth c n0 Q h' (cells + rm.cells) (slots + rm.slots) (pc + 3) Ls (v.toList ++ rest)) : Goes p l e R s m args below meth c n0 Q h cells slots pc Ls st := by
  intro T locs X N eT
  obtain ⟨v, _, ⟨T', L', k', n'⟩, -, X', ⟨Lc, hQ, q1, q2, q3⟩, stp⟩ := Jvm.LawKit.callS X A.1 A.2.2.2.1 (mvT A.2.2.1 hlink) (mvT A.2.2.1 hstat) (mvT A.2.2.1 hinit) (mvT A.2.2.1 hcode) hy (backOf (Q := fun v h' L => Qc v h' ∧ Fr n0 L) (W := W) (K []) A.2.2.1 hcode hinit hf hlo) (g := mkF m pc Ls st) rfl (by rw [A.2.2.2.2]; exact hsz) (argsL := argsL) (rest := rest) (lenOf hlen hl) hst (by show 2 * 0 + _ ≤ _; omega) (hb A.2.1 hd) (fun _ _ => ⟨rfl, eT, hcl, hsl⟩)
  dsimp only [Pt.U, Pt.locs, Pt.cells, Pt.slots] at X' q1 q2 q3 stp hQ
  subst q1 q2 q3
  obtain ⟨s₂, v2, L2, h1, r2⟩ := nx v T'.heap hQ.1 T' _ X' (Fr.app N hQ.2) rfl
  exact ⟨s₂, v2, L2, stp _ h1, r2⟩
theorem Goes.virt (A : Amb bs own mL Z p s m c) {index : Nat} {y z : MethodName} {C : String} {bc : ByteArray} {mC W : Nat} {ret : Option FieldType} {rm : Room} {a : Addr} {argsL : List Value} {Qc : Option Value → Heap → Prop} {ps : List FieldType} {r : Option FieldType}
    (hlink : (Jvm.Cond.methodLink own index y).before a0 Z = true) (hdecl : (Jvm.Cond.declares y).before a0 Z = true) (hsy : (Jvm.Cond.selects y.cls y y).before a0 Z = true) (hsel : (Jvm.Cond.selects C y z).before a0 Z = true) (hinst : (Jvm.Cond.instanceMethod z).before a0 Z = true) (hinit : (Jvm.Cond.initialized z.cls).before a0 Z = true) (hcode : (Jvm.Cond.code z bc mC ret).before a0 Z = true)
    (hd : decode bs pc = .ok (.invokevirtual index, 3)) (hlen : parseMethodDescriptor y.desc = some ⟨ps, r⟩) (hy : y.cls ≠ "java/lang/invoke/MethodHandle" ∧ y.cls ≠ "java/lang/invoke/VarHandle")
    (E : Exa Z h a C) (hl : argsL.length = ps.length) (hst : st = argsL.reverse ++ .ref a :: rest) (hsz : Ls.size = mL) (hW : (rest.map fun v => v.category).sum ≤ W)
    (hf : rm.frames + 1 ≤ R.frames) (hlo : W + (mC + 11) + rm.locals ≤ R.locals) (hcl : cells + rm.cells ≤ R.cells) (hsl : slots + rm.slots ≤ R.slots)
    (K : Con l Z n0 z bc mC ret rm (.ref a :: argsL).toArray h Qc)
    (nx : ∀ (v : Option Value) (h' : Heap), Qc v h' → Goes p l e R s m args below meth c n0 Q h' (cells + rm.cells) (slots + rm.slots) (pc + 3) Ls (v.toList ++ rest)) : Goes p l e R s m args below meth c n0 Q h cells slots pc Ls st := by
  intro T locs X N eT
  obtain ⟨cq, kq, qa, qb, qc⟩ := isOf A.2.2.1 eT E
  obtain ⟨v, _, ⟨T', L', k', n'⟩, -, X', ⟨Lc, hQ, q1, q2, q3⟩, stp⟩ := X.virtualBack A.1 (y := y) (z := z) A.2.2.2.1 (mvT A.2.2.1 hlink) (mvT A.2.2.1 hdecl) (notFace_of_selects (args := #[]) (mvT A.2.2.1 hsy)) (mvT A.2.2.1 hsel) (mvT A.2.2.1 hinst) hy (backOf (Q := fun v h' L => Qc v h' ∧ Fr n0 L) (W := W) (K []) A.2.2.1 hcode hinit hf hlo) qa qc (g := mkF m pc Ls st) rfl (by rw [A.2.2.2.2]; exact hsz) (Steps.refl _) (argsL := argsL) (rest := rest) (lenOf hlen hl) hst (by show 2 * 0 + _ ≤ _; omega) (hb A.2.1 hd) (fun _ _ => ⟨rfl, eT, hcl, hsl⟩)
  dsimp only [Pt.U, Pt.locs, Pt.cells, Pt.slots] at X' q1 q2 q3 stp hQ
  subst q1 q2 q3
  obtain ⟨s₂, v2, L2, h1, r2⟩ := nx v T'.heap hQ.1 T' _ X' (Fr.app N hQ.2) rfl
  exact ⟨s₂, v2, L2, stp.trans h1, r2⟩
theorem Goes.virtU (A : Amb bs own mL Z p s m c) {index : Nat} {y z : MethodName} {C owner : String} {bc : ByteArray} {mC W : Nat} {ret : Option FieldType} {rm : Room} {a : Addr} {argsL : List Value} {Qc : Option Value → Heap → Prop} {ps : List FieldType} {r : Option FieldType}
    (hlink : (Jvm.Cond.methodLink own index y).before a0 Z = true) (hsame : (Jvm.Cond.sameMethod y.cls owner y.name y.desc).before a0 Z = true) (hdecl : (Jvm.Cond.declares ⟨owner, y.name, y.desc⟩).before a0 Z = true) (hsel : (Jvm.Cond.selects C y z).before a0 Z = true) (hinst : (Jvm.Cond.instanceMethod z).before a0 Z = true) (hinit : (Jvm.Cond.initialized z.cls).before a0 Z = true) (hcode : (Jvm.Cond.code z bc mC ret).before a0 Z = true)
    (hd : decode bs pc = .ok (.invokevirtual index, 3)) (hlen : parseMethodDescriptor y.desc = some ⟨ps, r⟩) (hy : owner ≠ "java/lang/invoke/MethodHandle" ∧ owner ≠ "java/lang/invoke/VarHandle")
    (E : Exa Z h a C) (hl : argsL.length = ps.length) (hst : st = argsL.reverse ++ .ref a :: rest) (hsz : Ls.size = mL) (hW : (rest.map fun v => v.category).sum ≤ W)
    (hf : rm.frames + 1 ≤ R.frames) (hlo : W + (mC + 11) + rm.locals ≤ R.locals) (hcl : cells + rm.cells ≤ R.cells) (hsl : slots + rm.slots ≤ R.slots)
    (K : Con l Z n0 z bc mC ret rm (.ref a :: argsL).toArray h Qc)
    (nx : ∀ (v : Option Value) (h' : Heap), Qc v h' → Goes p l e R s m args below meth c n0 Q h' (cells + rm.cells) (slots + rm.slots) (pc + 3) Ls (v.toList ++ rest)) : Goes p l e R s m args below meth c n0 Q h cells slots pc Ls st := by
  intro T locs X N eT
  obtain ⟨cq, kq, qa, qb, qc⟩ := isOf A.2.2.1 eT E
  obtain ⟨v, _, ⟨T', L', k', n'⟩, -, X', ⟨Lc, hQ, q1, q2, q3⟩, stp⟩ := X.virtualBackUp A.1 (x := y) (y := z) (owner := owner) A.2.2.2.1 (mvT A.2.2.1 hlink) (mvT A.2.2.1 hsame) (mvT A.2.2.1 hdecl) hy (mvT A.2.2.1 hsel) (mvT A.2.2.1 hinst) (backOf (Q := fun v h' L => Qc v h' ∧ Fr n0 L) (W := W) (K []) A.2.2.1 hcode hinit hf hlo) qa qc (g := mkF m pc Ls st) rfl (by rw [A.2.2.2.2]; exact hsz) (Steps.refl _) (argsL := argsL) (rest := rest) (lenOf hlen hl) hst (by show 2 * 0 + _ ≤ _; omega) (hb A.2.1 hd) (fun _ _ => ⟨rfl, eT, hcl, hsl⟩)
  dsimp only [Pt.U, Pt.locs, Pt.cells, Pt.slots] at X' q1 q2 q3 stp hQ
  subst q1 q2 q3
  obtain ⟨s₂, v2, L2, h1, r2⟩ := nx v T'.heap hQ.1 T' _ X' (Fr.app N hQ.2) rfl
  exact ⟨s₂, v2, L2, stp.trans h1, r2⟩
theorem Goes.spec (A : Amb bs own mL Z p s m c) {index : Nat} {y : MethodName} {bc : ByteArray} {mC W : Nat} {rm : Room} {a : Addr} {argsL : List Value} {Qc : Option Value → Heap → Prop} {ps : List FieldType} {r : Option FieldType} (hy1 : y.name = "<init>")
    (hlink : (Jvm.Cond.methodLink own index y).before a0 Z = true) (hinst : (Jvm.Cond.instanceMethod y).before a0 Z = true) (hinit : (Jvm.Cond.initialized y.cls).before a0 Z = true) (hcode : (Jvm.Cond.code y bc mC none).before a0 Z = true)
    (hd : decode bs pc = .ok (.invokespecial index, 3)) (hlen : parseMethodDescriptor y.desc = some ⟨ps, r⟩) (hy : y.cls ≠ "java/lang/invoke/MethodHandle" ∧ y.cls ≠ "java/lang/invoke/VarHandle")
    (hl : argsL.length = ps.length) (hst : st = argsL.reverse ++ .ref a :: rest) (hsz : Ls.size = mL) (hW : (rest.map fun v => v.category).sum ≤ W)
    (hf : rm.frames + 1 ≤ R.frames) (hlo : W + (mC + 11) + rm.locals ≤ R.locals) (hcl : cells + rm.cells ≤ R.cells) (hsl : slots + rm.slots ≤ R.slots)
    (K : Con l Z n0 y bc mC none rm (.ref a :: argsL).toArray h Qc)
    (nx : ∀ (v : Option Value) (h' : Heap), Qc v h' → Goes p l e R s m args below meth c n0 Q h' (cells + rm.cells) (slots + rm.slots) (pc + 3) Ls (v.toList ++ rest)) : Goes p l e R s m args below meth c n0 Q h cells slots pc Ls st := by
  intro T locs X N eT
  obtain ⟨v, _, ⟨T', L', k', n'⟩, -, X', ⟨Lc, hQ, q1, q2, q3⟩, stp⟩ := X.specialBack A.1 (y := y) hy1 A.2.2.2.1 (mvT A.2.2.1 hlink) (mvT A.2.2.1 hinst) (mvT A.2.2.1 hcode) hy (backOf (Q := fun v h' L => Qc v h' ∧ Fr n0 L) (W := W) (K []) A.2.2.1 hcode hinit hf hlo) (g := mkF m pc Ls st) rfl (by rw [A.2.2.2.2]; exact hsz) (Steps.refl _) (a := a) (argsL := argsL) (rest := rest) (lenOf hlen hl) hst (by show 2 * 0 + _ ≤ _; omega) (hb A.2.1 hd) (fun _ _ => ⟨rfl, eT, hcl, hsl⟩)
  dsimp only [Pt.U, Pt.locs, Pt.cells, Pt.slots] at X' q1 q2 q3 stp hQ
  subst q1 q2 q3
  obtain ⟨s₂, v2, L2, h1, r2⟩ := nx v T'.heap hQ.1 T' _ X' (Fr.app N hQ.2) rfl
  exact ⟨s₂, v2, L2, stp.trans h1, r2⟩
end Own
theorem b1_0_1 : decL method_3_code [(.iload_n 0, 1)] 0 = true := by decide +kernel
theorem d1_1 : decode method_3_code 1 = .ok (.ifCond .ne 7, 3) := by decide +kernel
theorem d1_4 : decode method_3_code 4 = .ok (.getstatic 24, 3) := by decide +kernel
theorem d1_7 : decode method_3_code 7 = .ok (.areturn, 1) := by decide +kernel
theorem ef1_i (x0 : Int32) (m : MethodId) : entryFrame m #[(.int x0)] 1 = mkF m 0 #[.val (.int x0)] [] := by first | (simp [entryFrame, mkF, argsToLocals, Value.category]; done) | rfl
theorem pn_com_example_routinier_routinier_OperatorHoldsPinLaw : plainName "com/example/routinier/routinier/OperatorHoldsPinLaw" = true := by first | (simp [plainName, overriddenIn]; done) | decide +kernel
theorem b2_0_1 : decL method_4_code [(.iload_n 0, 1)] 0 = true := by decide +kernel
theorem d2_1 : decode method_4_code 1 = .ok (.ifCond .ne 5, 3) := by decide +kernel
theorem b2_4_1 : decL method_4_code [(.iconst 2, 1)] 4 = true := by decide +kernel
theorem d2_5 : decode method_4_code 5 = .ok (.ireturn, 1) := by decide +kernel
theorem ef2_i (x0 : Int32) (m : MethodId) : entryFrame m #[(.int x0)] 1 = mkF m 0 #[.val (.int x0)] [] := by first | (simp [entryFrame, mkF, argsToLocals, Value.category]; done) | rfl
theorem b1_8_2 : decL method_3_code [(.iload_n 0, 1), (.iconst 1, 1)] 8 = true := by decide +kernel
theorem d1_10 : decode method_3_code 10 = .ok (.if_icmp .ne 7, 3) := by decide +kernel
theorem d1_13 : decode method_3_code 13 = .ok (.getstatic 28, 3) := by decide +kernel
theorem d1_16 : decode method_3_code 16 = .ok (.areturn, 1) := by decide +kernel
theorem b2_6_2 : decL method_4_code [(.iload_n 0, 1), (.iconst 1, 1)] 6 = true := by decide +kernel
theorem d2_8 : decode method_4_code 8 = .ok (.if_icmp .ne 5, 3) := by decide +kernel
theorem b2_11_1 : decL method_4_code [(.iconst 5, 1)] 11 = true := by decide +kernel
theorem d2_12 : decode method_4_code 12 = .ok (.ireturn, 1) := by decide +kernel
theorem b1_17_2 : decL method_3_code [(.iload_n 0, 1), (.iconst 2, 1)] 17 = true := by decide +kernel
theorem d1_19 : decode method_3_code 19 = .ok (.if_icmp .ne 7, 3) := by decide +kernel
theorem d1_22 : decode method_3_code 22 = .ok (.getstatic 31, 3) := by decide +kernel
theorem d1_25 : decode method_3_code 25 = .ok (.areturn, 1) := by decide +kernel
theorem b2_13_2 : decL method_4_code [(.iload_n 0, 1), (.iconst 2, 1)] 13 = true := by decide +kernel
theorem d2_15 : decode method_4_code 15 = .ok (.if_icmp .ne 5, 3) := by decide +kernel
theorem b2_18_1 : decL method_4_code [(.iconst 1, 1)] 18 = true := by decide +kernel
theorem d2_19 : decode method_4_code 19 = .ok (.ireturn, 1) := by decide +kernel
theorem b1_26_2 : decL method_3_code [(.iload_n 0, 1), (.iconst 3, 1)] 26 = true := by decide +kernel
theorem d1_28 : decode method_3_code 28 = .ok (.if_icmp .ne 7, 3) := by decide +kernel
theorem d1_31 : decode method_3_code 31 = .ok (.getstatic 34, 3) := by decide +kernel
theorem d1_34 : decode method_3_code 34 = .ok (.areturn, 1) := by decide +kernel
theorem b2_20_2 : decL method_4_code [(.iload_n 0, 1), (.iconst 3, 1)] 20 = true := by decide +kernel
theorem d2_22 : decode method_4_code 22 = .ok (.if_icmp .ne 5, 3) := by decide +kernel
theorem b2_25_1 : decL method_4_code [(.iconst 3, 1)] 25 = true := by decide +kernel
theorem d2_26 : decode method_4_code 26 = .ok (.ireturn, 1) := by decide +kernel
theorem b1_35_2 : decL method_3_code [(.iload_n 0, 1), (.iconst 4, 1)] 35 = true := by decide +kernel
theorem d1_37 : decode method_3_code 37 = .ok (.if_icmp .ne 7, 3) := by decide +kernel
theorem d1_40 : decode method_3_code 40 = .ok (.getstatic 37, 3) := by decide +kernel
theorem d1_43 : decode method_3_code 43 = .ok (.areturn, 1) := by decide +kernel
theorem b2_27_2 : decL method_4_code [(.iload_n 0, 1), (.iconst 4, 1)] 27 = true := by decide +kernel
theorem d2_29 : decode method_4_code 29 = .ok (.if_icmp .ne 5, 3) := by decide +kernel
theorem b2_32_1 : decL method_4_code [(.iconst 4, 1)] 32 = true := by decide +kernel
theorem d2_33 : decode method_4_code 33 = .ok (.ireturn, 1) := by decide +kernel
theorem d1_44 : decode method_3_code 44 = .ok (.getstatic 40, 3) := by decide +kernel
theorem d1_47 : decode method_3_code 47 = .ok (.areturn, 1) := by decide +kernel
theorem b2_34_1 : decL method_4_code [(.bipush 6, 2)] 34 = true := by decide +kernel
theorem d2_36 : decode method_4_code 36 = .ok (.ireturn, 1) := by decide +kernel
theorem b4_0_1 : decL jdk_37_method_2_code [(.aload_n 0, 1)] 0 = true := by decide +kernel
theorem d4_1 : decode jdk_37_method_2_code 1 = .ok (.getfield 7, 3) := by decide +kernel
theorem d4_4 : decode jdk_37_method_2_code 4 = .ok (.ireturn, 1) := by decide +kernel
theorem ef4_r (x0 : Addr) (m : MethodId) : entryFrame m #[(.ref x0)] 1 = mkF m 0 #[.val (.ref x0)] [] := by first | (simp [entryFrame, mkF, argsToLocals, Value.category]; done) | rfl
theorem pn_java_lang_Enum : plainName "java/lang/Enum" = true := by first | (simp [plainName, overriddenIn]; done) | decide +kernel
theorem b3_0_1 : decL prog_28_method_5_code [(.aload_n 0, 1)] 0 = true := by decide +kernel
theorem pd_248321 : parseMethodDescriptor "()I" = some ⟨[], some .int⟩ := by decide +kernel
theorem d3_1 : decode prog_28_method_5_code 1 = .ok (.invokevirtual 45, 3) := by decide +kernel
theorem d3_4 : decode prog_28_method_5_code 4 = .ok (.tableswitch 40 0 5 #[50, 62, 74, 86, 98, 110], 40) := by decide +kernel
theorem b3_54_1 : decL prog_28_method_5_code [(.iload_n 1, 1)] 54 = true := by decide +kernel
theorem d3_55 : decode prog_28_method_5_code 55 = .ok (.ifCond .ne 7, 3) := by decide +kernel
theorem b3_62_1 : decL prog_28_method_5_code [(.iconst 0, 1)] 62 = true := by decide +kernel
theorem d3_63 : decode prog_28_method_5_code 63 = .ok (.goto 60, 3) := by decide +kernel
theorem d3_123 : decode prog_28_method_5_code 123 = .ok (.ireturn, 1) := by decide +kernel
theorem ef3_ri (x0 : Addr) (x1 : Int32) (m : MethodId) : entryFrame m #[(.ref x0), (.int x1)] 2 = mkF m 0 #[.val (.ref x0), .val (.int x1)] [] := by first | (simp [entryFrame, mkF, argsToLocals, Value.category]; done) | rfl
theorem pn_com_example_routinier_routinier_Comparison_Operator : plainName "com/example/routinier/routinier/Comparison$Operator" = true := by first | (simp [plainName, overriddenIn]; done) | decide +kernel
theorem b3_58_1 : decL prog_28_method_5_code [(.iconst 1, 1)] 58 = true := by decide +kernel
theorem d3_59 : decode prog_28_method_5_code 59 = .ok (.goto 64, 3) := by decide +kernel
theorem b3_66_1 : decL prog_28_method_5_code [(.iload_n 1, 1)] 66 = true := by decide +kernel
theorem d3_67 : decode prog_28_method_5_code 67 = .ok (.ifCond .eq 7, 3) := by decide +kernel
theorem b3_70_1 : decL prog_28_method_5_code [(.iconst 1, 1)] 70 = true := by decide +kernel
theorem d3_71 : decode prog_28_method_5_code 71 = .ok (.goto 52, 3) := by decide +kernel
theorem b3_74_1 : decL prog_28_method_5_code [(.iconst 0, 1)] 74 = true := by decide +kernel
theorem d3_75 : decode prog_28_method_5_code 75 = .ok (.goto 48, 3) := by decide +kernel
theorem b3_78_1 : decL prog_28_method_5_code [(.iload_n 1, 1)] 78 = true := by decide +kernel
theorem d3_79 : decode prog_28_method_5_code 79 = .ok (.ifCond .ge 7, 3) := by decide +kernel
theorem b3_82_1 : decL prog_28_method_5_code [(.iconst 1, 1)] 82 = true := by decide +kernel
theorem d3_83 : decode prog_28_method_5_code 83 = .ok (.goto 40, 3) := by decide +kernel
theorem b3_86_1 : decL prog_28_method_5_code [(.iconst 0, 1)] 86 = true := by decide +kernel
theorem d3_87 : decode prog_28_method_5_code 87 = .ok (.goto 36, 3) := by decide +kernel
theorem b3_90_1 : decL prog_28_method_5_code [(.iload_n 1, 1)] 90 = true := by decide +kernel
theorem d3_91 : decode prog_28_method_5_code 91 = .ok (.ifCond .gt 7, 3) := by decide +kernel
theorem b3_94_1 : decL prog_28_method_5_code [(.iconst 1, 1)] 94 = true := by decide +kernel
theorem d3_95 : decode prog_28_method_5_code 95 = .ok (.goto 28, 3) := by decide +kernel
theorem b3_98_1 : decL prog_28_method_5_code [(.iconst 0, 1)] 98 = true := by decide +kernel
theorem d3_99 : decode prog_28_method_5_code 99 = .ok (.goto 24, 3) := by decide +kernel
theorem b3_102_1 : decL prog_28_method_5_code [(.iload_n 1, 1)] 102 = true := by decide +kernel
theorem d3_103 : decode prog_28_method_5_code 103 = .ok (.ifCond .le 7, 3) := by decide +kernel
theorem b3_110_1 : decL prog_28_method_5_code [(.iconst 0, 1)] 110 = true := by decide +kernel
theorem d3_111 : decode prog_28_method_5_code 111 = .ok (.goto 12, 3) := by decide +kernel
theorem b3_106_1 : decL prog_28_method_5_code [(.iconst 1, 1)] 106 = true := by decide +kernel
theorem d3_107 : decode prog_28_method_5_code 107 = .ok (.goto 16, 3) := by decide +kernel
theorem b3_114_1 : decL prog_28_method_5_code [(.iload_n 1, 1)] 114 = true := by decide +kernel
theorem d3_115 : decode prog_28_method_5_code 115 = .ok (.ifCond .lt 7, 3) := by decide +kernel
theorem b3_122_1 : decL prog_28_method_5_code [(.iconst 0, 1)] 122 = true := by decide +kernel
theorem b3_118_1 : decL prog_28_method_5_code [(.iconst 1, 1)] 118 = true := by decide +kernel
theorem d3_119 : decode prog_28_method_5_code 119 = .ok (.goto 4, 3) := by decide +kernel
theorem b0_0_1 : decL code [(.iload_n 0, 1)] 0 = true := by decide +kernel
theorem b0_3_2 : decL code [(.iand, 1), (.bipush 6, 2)] 3 = true := by decide +kernel
theorem b0_7_2 : decL code [(.istore_n 2, 1), (.iload_n 2, 1)] 7 = true := by decide +kernel
theorem pd_867258 : parseMethodDescriptor "(I)Lcom/example/routinier/routinier/Comparison$Operator;" = some ⟨[.int], some (.object "com/example/routinier/routinier/Comparison$Operator")⟩ := by decide +kernel
theorem b0_12_2 : decL code [(.astore_n 3, 1), (.iload_n 2, 1)] 12 = true := by decide +kernel
theorem pd_727763 : parseMethodDescriptor "(I)I" = some ⟨[.int], some .int⟩ := by decide +kernel
theorem b0_17_2 : decL code [(.istore 4, 2), (.iload_n 1, 1)] 17 = true := by decide +kernel
theorem b0_23_1 : decL code [(.iconst 0, 1)] 23 = true := by decide +kernel
theorem b0_36_6 : decL code [(.istore 5, 2), (.iload 4, 2), (.iload 5, 2), (.ishr, 1), (.iconst 1, 1), (.iand, 1)] 36 = true := by decide +kernel
theorem b0_52_4 : decL code [(.iconst 0, 1), (.istore 6, 2), (.aload_n 3, 1), (.iload_n 1, 1)] 52 = true := by decide +kernel
theorem pd_727780 : parseMethodDescriptor "(I)Z" = some ⟨[.int], some .boolean⟩ := by decide +kernel
theorem b0_60_1 : decL code [(.iload 6, 2)] 60 = true := by decide +kernel
theorem b0_65_1 : decL code [(.iconst 1, 1)] 65 = true := by decide +kernel
theorem ef0_ii (x0 : Int32) (x1 : Int32) (m : MethodId) : entryFrame m #[(.int x0), (.int x1)] maxLocals = mkF m 0 #[.val (.int x0), .val (.int x1), .unset, .unset, .unset, .unset, .unset] [] := by first | (simp [entryFrame, mkF, argsToLocals, Value.category, maxLocals]; done) | rfl
theorem b0_27_1 : decL code [(.iload_n 1, 1)] 27 = true := by decide +kernel
theorem b0_31_1 : decL code [(.iconst 1, 1)] 31 = true := by decide +kernel
theorem b0_48_1 : decL code [(.iconst 1, 1)] 48 = true := by decide +kernel
theorem b0_53_3 : decL code [(.istore 6, 2), (.aload_n 3, 1), (.iload_n 1, 1)] 53 = true := by decide +kernel
theorem b0_35_7 : decL code [(.iconst 2, 1), (.istore 5, 2), (.iload 4, 2), (.iload 5, 2), (.ishr, 1), (.iconst 1, 1), (.iand, 1)] 35 = true := by decide +kernel
theorem own_rem (x n : Int32) (hn : 0 < n.toInt) : 0 ≤ ((x &&& 2147483647) % n).toInt ∧ ((x &&& 2147483647) % n).toInt < n.toInt := by
  have q := c_and x 2147483647 (by decide)
  have r := (c_iremV (x &&& 2147483647) n).1 q.1 hn
  exact ⟨r.1, r.2.1⟩

theorem own_c6 {v k : Int32} (hk : k.toInt = 6) (q : 0 ≤ v.toInt ∧ v.toInt < k.toInt) : v = 0 ∨ v = 1 ∨ v = 2 ∨ v = 3 ∨ v = 4 ∨ v = 5 := by
  rw [hk] at q
  rcases (by omega : v.toInt = 0 ∨ v.toInt = 1 ∨ v.toInt = 2 ∨ v.toInt = 3 ∨ v.toInt = 4 ∨ v.toInt = 5) with r | r | r | r | r | r
  · exact (Or.inl (Int32.toInt_inj.mp (r.trans (by decide))))
  · exact (Or.inr (Or.inl (Int32.toInt_inj.mp (r.trans (by decide)))))
  · exact (Or.inr (Or.inr (Or.inl (Int32.toInt_inj.mp (r.trans (by decide))))))
  · exact (Or.inr (Or.inr (Or.inr (Or.inl (Int32.toInt_inj.mp (r.trans (by decide)))))))
  · exact (Or.inr (Or.inr (Or.inr (Or.inr (Or.inl (Int32.toInt_inj.mp (r.trans (by decide))))))))
  · exact (Or.inr (Or.inr (Or.inr (Or.inr (Or.inr (Int32.toInt_inj.mp (r.trans (by decide))))))))

set_option maxRecDepth 65536 in
set_option maxHeartbeats 40000000 in
theorem kp0 (l : Launch) (Z : State) (n0 : Nat) (a0 : Array Value) (hw : ∀ d ∈ tables_1, d.before a0 Z = true) (h : Heap) (a_EQUALS : Addr) (S_EQUALS : Sta Z h "com/example/routinier/routinier/Comparison$Operator" "EQUALS" "Lcom/example/routinier/routinier/Comparison$Operator;" (.ref a_EQUALS)) : Con l Z n0 (⟨"com/example/routinier/routinier/OperatorHoldsPinLaw", "operator", "(I)Lcom/example/routinier/routinier/Comparison$Operator;"⟩ : MethodName) method_3_code 1 (some (.object "com/example/routinier/routinier/Comparison$Operator")) ({ frames := 0, cells := 0, slots := 0, locals := 0 } : Room) #[(.int (0 : Int32))] h (fun v h' => v = some (.ref a_EQUALS) ∧ h = h') := by
  refine Con.mk (Ls := #[.val (.int (0 : Int32))]) pn_com_example_routinier_routinier_OperatorHoldsPinLaw (ef1_i (0 : Int32)) ?_
  intro p e s m below meth c A hret hlk hnm
  refine Goes.blk A _ b1_0_1 (pc' := 1) (Ls' := #[.val (.int (0 : Int32))]) (st' := [(.int (0 : Int32))]) rfl ?_
  refine Goes.if1 A d1_1 (by decide) (pc' := 8) (by decide) (fun hc => absurd hc (cP_f (by decide))) (fun hc1 => ?_)
  refine Goes.getS A (hw _ (List.mem_of_getElem? (i := 5) rfl)) Via.refl S_EQUALS d1_4 ?_
  exact Goes.retA A hret rfl rfl rfl hlk d1_7 (by decide) (by decide) ⟨rfl, rfl⟩
set_option maxRecDepth 65536 in
set_option maxHeartbeats 40000000 in
theorem km0 (l : Launch) (Z : State) (n0 : Nat) (a0 : Array Value) (hw : ∀ d ∈ tables_1, d.before a0 Z = true) (h : Heap)  : Con l Z n0 (⟨"com/example/routinier/routinier/OperatorHoldsPinLaw", "admitted", "(I)I"⟩ : MethodName) method_4_code 1 (some .int) ({ frames := 0, cells := 0, slots := 0, locals := 0 } : Room) #[(.int (0 : Int32))] h (fun v h' => v = some (.int (2 : Int32)) ∧ h = h') := by
  refine Con.mk (Ls := #[.val (.int (0 : Int32))]) pn_com_example_routinier_routinier_OperatorHoldsPinLaw (ef2_i (0 : Int32)) ?_
  intro p e s m below meth c A hret hlk hnm
  refine Goes.blk A _ b2_0_1 (pc' := 1) (Ls' := #[.val (.int (0 : Int32))]) (st' := [(.int (0 : Int32))]) rfl ?_
  refine Goes.if1 A d2_1 (by decide) (pc' := 6) (by decide) (fun hc => absurd hc (cP_f (by decide))) (fun hc1 => ?_)
  refine Goes.blk A _ b2_4_1 (pc' := 5) (Ls' := #[.val (.int (0 : Int32))]) (st' := [(.int (2 : Int32))]) rfl ?_
  exact Goes.retI A hret hlk d2_5 (by decide) (by decide) ⟨rfl, rfl⟩
set_option maxRecDepth 65536 in
set_option maxHeartbeats 40000000 in
theorem kp1 (l : Launch) (Z : State) (n0 : Nat) (a0 : Array Value) (hw : ∀ d ∈ tables_1, d.before a0 Z = true) (h : Heap) (a_NOT_EQUALS : Addr) (S_NOT_EQUALS : Sta Z h "com/example/routinier/routinier/Comparison$Operator" "NOT_EQUALS" "Lcom/example/routinier/routinier/Comparison$Operator;" (.ref a_NOT_EQUALS)) : Con l Z n0 (⟨"com/example/routinier/routinier/OperatorHoldsPinLaw", "operator", "(I)Lcom/example/routinier/routinier/Comparison$Operator;"⟩ : MethodName) method_3_code 1 (some (.object "com/example/routinier/routinier/Comparison$Operator")) ({ frames := 0, cells := 0, slots := 0, locals := 0 } : Room) #[(.int (1 : Int32))] h (fun v h' => v = some (.ref a_NOT_EQUALS) ∧ h = h') := by
  refine Con.mk (Ls := #[.val (.int (1 : Int32))]) pn_com_example_routinier_routinier_OperatorHoldsPinLaw (ef1_i (1 : Int32)) ?_
  intro p e s m below meth c A hret hlk hnm
  refine Goes.blk A _ b1_0_1 (pc' := 1) (Ls' := #[.val (.int (1 : Int32))]) (st' := [(.int (1 : Int32))]) rfl ?_
  refine Goes.if1 A d1_1 (by decide) (pc' := 8) (by decide) (fun hc1 => ?_) (fun hc => absurd (cP_t (by decide)) hc)
  refine Goes.blk A _ b1_8_2 (pc' := 10) (Ls' := #[.val (.int (1 : Int32))]) (st' := [(.int (1 : Int32)), (.int (1 : Int32))]) rfl ?_
  refine Goes.if2 A d1_10 (by decide) (pc' := 17) (by decide) (fun hc => absurd hc (cP_f (by decide))) (fun hc2 => ?_)
  refine Goes.getS A (hw _ (List.mem_of_getElem? (i := 29) rfl)) Via.refl S_NOT_EQUALS d1_13 ?_
  exact Goes.retA A hret rfl rfl rfl hlk d1_16 (by decide) (by decide) ⟨rfl, rfl⟩
set_option maxRecDepth 65536 in
set_option maxHeartbeats 40000000 in
theorem km1 (l : Launch) (Z : State) (n0 : Nat) (a0 : Array Value) (hw : ∀ d ∈ tables_1, d.before a0 Z = true) (h : Heap)  : Con l Z n0 (⟨"com/example/routinier/routinier/OperatorHoldsPinLaw", "admitted", "(I)I"⟩ : MethodName) method_4_code 1 (some .int) ({ frames := 0, cells := 0, slots := 0, locals := 0 } : Room) #[(.int (1 : Int32))] h (fun v h' => v = some (.int (5 : Int32)) ∧ h = h') := by
  refine Con.mk (Ls := #[.val (.int (1 : Int32))]) pn_com_example_routinier_routinier_OperatorHoldsPinLaw (ef2_i (1 : Int32)) ?_
  intro p e s m below meth c A hret hlk hnm
  refine Goes.blk A _ b2_0_1 (pc' := 1) (Ls' := #[.val (.int (1 : Int32))]) (st' := [(.int (1 : Int32))]) rfl ?_
  refine Goes.if1 A d2_1 (by decide) (pc' := 6) (by decide) (fun hc1 => ?_) (fun hc => absurd (cP_t (by decide)) hc)
  refine Goes.blk A _ b2_6_2 (pc' := 8) (Ls' := #[.val (.int (1 : Int32))]) (st' := [(.int (1 : Int32)), (.int (1 : Int32))]) rfl ?_
  refine Goes.if2 A d2_8 (by decide) (pc' := 13) (by decide) (fun hc => absurd hc (cP_f (by decide))) (fun hc2 => ?_)
  refine Goes.blk A _ b2_11_1 (pc' := 12) (Ls' := #[.val (.int (1 : Int32))]) (st' := [(.int (5 : Int32))]) rfl ?_
  exact Goes.retI A hret hlk d2_12 (by decide) (by decide) ⟨rfl, rfl⟩
set_option maxRecDepth 65536 in
set_option maxHeartbeats 40000000 in
theorem kp2 (l : Launch) (Z : State) (n0 : Nat) (a0 : Array Value) (hw : ∀ d ∈ tables_1, d.before a0 Z = true) (h : Heap) (a_LESS : Addr) (S_LESS : Sta Z h "com/example/routinier/routinier/Comparison$Operator" "LESS" "Lcom/example/routinier/routinier/Comparison$Operator;" (.ref a_LESS)) : Con l Z n0 (⟨"com/example/routinier/routinier/OperatorHoldsPinLaw", "operator", "(I)Lcom/example/routinier/routinier/Comparison$Operator;"⟩ : MethodName) method_3_code 1 (some (.object "com/example/routinier/routinier/Comparison$Operator")) ({ frames := 0, cells := 0, slots := 0, locals := 0 } : Room) #[(.int (2 : Int32))] h (fun v h' => v = some (.ref a_LESS) ∧ h = h') := by
  refine Con.mk (Ls := #[.val (.int (2 : Int32))]) pn_com_example_routinier_routinier_OperatorHoldsPinLaw (ef1_i (2 : Int32)) ?_
  intro p e s m below meth c A hret hlk hnm
  refine Goes.blk A _ b1_0_1 (pc' := 1) (Ls' := #[.val (.int (2 : Int32))]) (st' := [(.int (2 : Int32))]) rfl ?_
  refine Goes.if1 A d1_1 (by decide) (pc' := 8) (by decide) (fun hc1 => ?_) (fun hc => absurd (cP_t (by decide)) hc)
  refine Goes.blk A _ b1_8_2 (pc' := 10) (Ls' := #[.val (.int (2 : Int32))]) (st' := [(.int (1 : Int32)), (.int (2 : Int32))]) rfl ?_
  refine Goes.if2 A d1_10 (by decide) (pc' := 17) (by decide) (fun hc2 => ?_) (fun hc => absurd (cP_t (by decide)) hc)
  refine Goes.blk A _ b1_17_2 (pc' := 19) (Ls' := #[.val (.int (2 : Int32))]) (st' := [(.int (2 : Int32)), (.int (2 : Int32))]) rfl ?_
  refine Goes.if2 A d1_19 (by decide) (pc' := 26) (by decide) (fun hc => absurd hc (cP_f (by decide))) (fun hc3 => ?_)
  refine Goes.getS A (hw _ (List.mem_of_getElem? (i := 25) rfl)) Via.refl S_LESS d1_22 ?_
  exact Goes.retA A hret rfl rfl rfl hlk d1_25 (by decide) (by decide) ⟨rfl, rfl⟩
set_option maxRecDepth 65536 in
set_option maxHeartbeats 40000000 in
theorem km2 (l : Launch) (Z : State) (n0 : Nat) (a0 : Array Value) (hw : ∀ d ∈ tables_1, d.before a0 Z = true) (h : Heap)  : Con l Z n0 (⟨"com/example/routinier/routinier/OperatorHoldsPinLaw", "admitted", "(I)I"⟩ : MethodName) method_4_code 1 (some .int) ({ frames := 0, cells := 0, slots := 0, locals := 0 } : Room) #[(.int (2 : Int32))] h (fun v h' => v = some (.int (1 : Int32)) ∧ h = h') := by
  refine Con.mk (Ls := #[.val (.int (2 : Int32))]) pn_com_example_routinier_routinier_OperatorHoldsPinLaw (ef2_i (2 : Int32)) ?_
  intro p e s m below meth c A hret hlk hnm
  refine Goes.blk A _ b2_0_1 (pc' := 1) (Ls' := #[.val (.int (2 : Int32))]) (st' := [(.int (2 : Int32))]) rfl ?_
  refine Goes.if1 A d2_1 (by decide) (pc' := 6) (by decide) (fun hc1 => ?_) (fun hc => absurd (cP_t (by decide)) hc)
  refine Goes.blk A _ b2_6_2 (pc' := 8) (Ls' := #[.val (.int (2 : Int32))]) (st' := [(.int (1 : Int32)), (.int (2 : Int32))]) rfl ?_
  refine Goes.if2 A d2_8 (by decide) (pc' := 13) (by decide) (fun hc2 => ?_) (fun hc => absurd (cP_t (by decide)) hc)
  refine Goes.blk A _ b2_13_2 (pc' := 15) (Ls' := #[.val (.int (2 : Int32))]) (st' := [(.int (2 : Int32)), (.int (2 : Int32))]) rfl ?_
  refine Goes.if2 A d2_15 (by decide) (pc' := 20) (by decide) (fun hc => absurd hc (cP_f (by decide))) (fun hc3 => ?_)
  refine Goes.blk A _ b2_18_1 (pc' := 19) (Ls' := #[.val (.int (2 : Int32))]) (st' := [(.int (1 : Int32))]) rfl ?_
  exact Goes.retI A hret hlk d2_19 (by decide) (by decide) ⟨rfl, rfl⟩
set_option maxRecDepth 65536 in
set_option maxHeartbeats 40000000 in
theorem kp3 (l : Launch) (Z : State) (n0 : Nat) (a0 : Array Value) (hw : ∀ d ∈ tables_1, d.before a0 Z = true) (h : Heap) (a_LESS_OR_EQUAL : Addr) (S_LESS_OR_EQUAL : Sta Z h "com/example/routinier/routinier/Comparison$Operator" "LESS_OR_EQUAL" "Lcom/example/routinier/routinier/Comparison$Operator;" (.ref a_LESS_OR_EQUAL)) : Con l Z n0 (⟨"com/example/routinier/routinier/OperatorHoldsPinLaw", "operator", "(I)Lcom/example/routinier/routinier/Comparison$Operator;"⟩ : MethodName) method_3_code 1 (some (.object "com/example/routinier/routinier/Comparison$Operator")) ({ frames := 0, cells := 0, slots := 0, locals := 0 } : Room) #[(.int (3 : Int32))] h (fun v h' => v = some (.ref a_LESS_OR_EQUAL) ∧ h = h') := by
  refine Con.mk (Ls := #[.val (.int (3 : Int32))]) pn_com_example_routinier_routinier_OperatorHoldsPinLaw (ef1_i (3 : Int32)) ?_
  intro p e s m below meth c A hret hlk hnm
  refine Goes.blk A _ b1_0_1 (pc' := 1) (Ls' := #[.val (.int (3 : Int32))]) (st' := [(.int (3 : Int32))]) rfl ?_
  refine Goes.if1 A d1_1 (by decide) (pc' := 8) (by decide) (fun hc1 => ?_) (fun hc => absurd (cP_t (by decide)) hc)
  refine Goes.blk A _ b1_8_2 (pc' := 10) (Ls' := #[.val (.int (3 : Int32))]) (st' := [(.int (1 : Int32)), (.int (3 : Int32))]) rfl ?_
  refine Goes.if2 A d1_10 (by decide) (pc' := 17) (by decide) (fun hc2 => ?_) (fun hc => absurd (cP_t (by decide)) hc)
  refine Goes.blk A _ b1_17_2 (pc' := 19) (Ls' := #[.val (.int (3 : Int32))]) (st' := [(.int (2 : Int32)), (.int (3 : Int32))]) rfl ?_
  refine Goes.if2 A d1_19 (by decide) (pc' := 26) (by decide) (fun hc3 => ?_) (fun hc => absurd (cP_t (by decide)) hc)
  refine Goes.blk A _ b1_26_2 (pc' := 28) (Ls' := #[.val (.int (3 : Int32))]) (st' := [(.int (3 : Int32)), (.int (3 : Int32))]) rfl ?_
  refine Goes.if2 A d1_28 (by decide) (pc' := 35) (by decide) (fun hc => absurd hc (cP_f (by decide))) (fun hc4 => ?_)
  refine Goes.getS A (hw _ (List.mem_of_getElem? (i := 33) rfl)) Via.refl S_LESS_OR_EQUAL d1_31 ?_
  exact Goes.retA A hret rfl rfl rfl hlk d1_34 (by decide) (by decide) ⟨rfl, rfl⟩
set_option maxRecDepth 65536 in
set_option maxHeartbeats 40000000 in
theorem km3 (l : Launch) (Z : State) (n0 : Nat) (a0 : Array Value) (hw : ∀ d ∈ tables_1, d.before a0 Z = true) (h : Heap)  : Con l Z n0 (⟨"com/example/routinier/routinier/OperatorHoldsPinLaw", "admitted", "(I)I"⟩ : MethodName) method_4_code 1 (some .int) ({ frames := 0, cells := 0, slots := 0, locals := 0 } : Room) #[(.int (3 : Int32))] h (fun v h' => v = some (.int (3 : Int32)) ∧ h = h') := by
  refine Con.mk (Ls := #[.val (.int (3 : Int32))]) pn_com_example_routinier_routinier_OperatorHoldsPinLaw (ef2_i (3 : Int32)) ?_
  intro p e s m below meth c A hret hlk hnm
  refine Goes.blk A _ b2_0_1 (pc' := 1) (Ls' := #[.val (.int (3 : Int32))]) (st' := [(.int (3 : Int32))]) rfl ?_
  refine Goes.if1 A d2_1 (by decide) (pc' := 6) (by decide) (fun hc1 => ?_) (fun hc => absurd (cP_t (by decide)) hc)
  refine Goes.blk A _ b2_6_2 (pc' := 8) (Ls' := #[.val (.int (3 : Int32))]) (st' := [(.int (1 : Int32)), (.int (3 : Int32))]) rfl ?_
  refine Goes.if2 A d2_8 (by decide) (pc' := 13) (by decide) (fun hc2 => ?_) (fun hc => absurd (cP_t (by decide)) hc)
  refine Goes.blk A _ b2_13_2 (pc' := 15) (Ls' := #[.val (.int (3 : Int32))]) (st' := [(.int (2 : Int32)), (.int (3 : Int32))]) rfl ?_
  refine Goes.if2 A d2_15 (by decide) (pc' := 20) (by decide) (fun hc3 => ?_) (fun hc => absurd (cP_t (by decide)) hc)
  refine Goes.blk A _ b2_20_2 (pc' := 22) (Ls' := #[.val (.int (3 : Int32))]) (st' := [(.int (3 : Int32)), (.int (3 : Int32))]) rfl ?_
  refine Goes.if2 A d2_22 (by decide) (pc' := 27) (by decide) (fun hc => absurd hc (cP_f (by decide))) (fun hc4 => ?_)
  refine Goes.blk A _ b2_25_1 (pc' := 26) (Ls' := #[.val (.int (3 : Int32))]) (st' := [(.int (3 : Int32))]) rfl ?_
  exact Goes.retI A hret hlk d2_26 (by decide) (by decide) ⟨rfl, rfl⟩
set_option maxRecDepth 65536 in
set_option maxHeartbeats 40000000 in
theorem kp4 (l : Launch) (Z : State) (n0 : Nat) (a0 : Array Value) (hw : ∀ d ∈ tables_1, d.before a0 Z = true) (h : Heap) (a_GREATER : Addr) (S_GREATER : Sta Z h "com/example/routinier/routinier/Comparison$Operator" "GREATER" "Lcom/example/routinier/routinier/Comparison$Operator;" (.ref a_GREATER)) : Con l Z n0 (⟨"com/example/routinier/routinier/OperatorHoldsPinLaw", "operator", "(I)Lcom/example/routinier/routinier/Comparison$Operator;"⟩ : MethodName) method_3_code 1 (some (.object "com/example/routinier/routinier/Comparison$Operator")) ({ frames := 0, cells := 0, slots := 0, locals := 0 } : Room) #[(.int (4 : Int32))] h (fun v h' => v = some (.ref a_GREATER) ∧ h = h') := by
  refine Con.mk (Ls := #[.val (.int (4 : Int32))]) pn_com_example_routinier_routinier_OperatorHoldsPinLaw (ef1_i (4 : Int32)) ?_
  intro p e s m below meth c A hret hlk hnm
  refine Goes.blk A _ b1_0_1 (pc' := 1) (Ls' := #[.val (.int (4 : Int32))]) (st' := [(.int (4 : Int32))]) rfl ?_
  refine Goes.if1 A d1_1 (by decide) (pc' := 8) (by decide) (fun hc1 => ?_) (fun hc => absurd (cP_t (by decide)) hc)
  refine Goes.blk A _ b1_8_2 (pc' := 10) (Ls' := #[.val (.int (4 : Int32))]) (st' := [(.int (1 : Int32)), (.int (4 : Int32))]) rfl ?_
  refine Goes.if2 A d1_10 (by decide) (pc' := 17) (by decide) (fun hc2 => ?_) (fun hc => absurd (cP_t (by decide)) hc)
  refine Goes.blk A _ b1_17_2 (pc' := 19) (Ls' := #[.val (.int (4 : Int32))]) (st' := [(.int (2 : Int32)), (.int (4 : Int32))]) rfl ?_
  refine Goes.if2 A d1_19 (by decide) (pc' := 26) (by decide) (fun hc3 => ?_) (fun hc => absurd (cP_t (by decide)) hc)
  refine Goes.blk A _ b1_26_2 (pc' := 28) (Ls' := #[.val (.int (4 : Int32))]) (st' := [(.int (3 : Int32)), (.int (4 : Int32))]) rfl ?_
  refine Goes.if2 A d1_28 (by decide) (pc' := 35) (by decide) (fun hc4 => ?_) (fun hc => absurd (cP_t (by decide)) hc)
  refine Goes.blk A _ b1_35_2 (pc' := 37) (Ls' := #[.val (.int (4 : Int32))]) (st' := [(.int (4 : Int32)), (.int (4 : Int32))]) rfl ?_
  refine Goes.if2 A d1_37 (by decide) (pc' := 44) (by decide) (fun hc => absurd hc (cP_f (by decide))) (fun hc5 => ?_)
  refine Goes.getS A (hw _ (List.mem_of_getElem? (i := 27) rfl)) Via.refl S_GREATER d1_40 ?_
  exact Goes.retA A hret rfl rfl rfl hlk d1_43 (by decide) (by decide) ⟨rfl, rfl⟩
set_option maxRecDepth 65536 in
set_option maxHeartbeats 40000000 in
theorem km4 (l : Launch) (Z : State) (n0 : Nat) (a0 : Array Value) (hw : ∀ d ∈ tables_1, d.before a0 Z = true) (h : Heap)  : Con l Z n0 (⟨"com/example/routinier/routinier/OperatorHoldsPinLaw", "admitted", "(I)I"⟩ : MethodName) method_4_code 1 (some .int) ({ frames := 0, cells := 0, slots := 0, locals := 0 } : Room) #[(.int (4 : Int32))] h (fun v h' => v = some (.int (4 : Int32)) ∧ h = h') := by
  refine Con.mk (Ls := #[.val (.int (4 : Int32))]) pn_com_example_routinier_routinier_OperatorHoldsPinLaw (ef2_i (4 : Int32)) ?_
  intro p e s m below meth c A hret hlk hnm
  refine Goes.blk A _ b2_0_1 (pc' := 1) (Ls' := #[.val (.int (4 : Int32))]) (st' := [(.int (4 : Int32))]) rfl ?_
  refine Goes.if1 A d2_1 (by decide) (pc' := 6) (by decide) (fun hc1 => ?_) (fun hc => absurd (cP_t (by decide)) hc)
  refine Goes.blk A _ b2_6_2 (pc' := 8) (Ls' := #[.val (.int (4 : Int32))]) (st' := [(.int (1 : Int32)), (.int (4 : Int32))]) rfl ?_
  refine Goes.if2 A d2_8 (by decide) (pc' := 13) (by decide) (fun hc2 => ?_) (fun hc => absurd (cP_t (by decide)) hc)
  refine Goes.blk A _ b2_13_2 (pc' := 15) (Ls' := #[.val (.int (4 : Int32))]) (st' := [(.int (2 : Int32)), (.int (4 : Int32))]) rfl ?_
  refine Goes.if2 A d2_15 (by decide) (pc' := 20) (by decide) (fun hc3 => ?_) (fun hc => absurd (cP_t (by decide)) hc)
  refine Goes.blk A _ b2_20_2 (pc' := 22) (Ls' := #[.val (.int (4 : Int32))]) (st' := [(.int (3 : Int32)), (.int (4 : Int32))]) rfl ?_
  refine Goes.if2 A d2_22 (by decide) (pc' := 27) (by decide) (fun hc4 => ?_) (fun hc => absurd (cP_t (by decide)) hc)
  refine Goes.blk A _ b2_27_2 (pc' := 29) (Ls' := #[.val (.int (4 : Int32))]) (st' := [(.int (4 : Int32)), (.int (4 : Int32))]) rfl ?_
  refine Goes.if2 A d2_29 (by decide) (pc' := 34) (by decide) (fun hc => absurd hc (cP_f (by decide))) (fun hc5 => ?_)
  refine Goes.blk A _ b2_32_1 (pc' := 33) (Ls' := #[.val (.int (4 : Int32))]) (st' := [(.int (4 : Int32))]) rfl ?_
  exact Goes.retI A hret hlk d2_33 (by decide) (by decide) ⟨rfl, rfl⟩
set_option maxRecDepth 65536 in
set_option maxHeartbeats 40000000 in
theorem kp5 (l : Launch) (Z : State) (n0 : Nat) (a0 : Array Value) (hw : ∀ d ∈ tables_1, d.before a0 Z = true) (h : Heap) (a_GREATER_OR_EQUAL : Addr) (S_GREATER_OR_EQUAL : Sta Z h "com/example/routinier/routinier/Comparison$Operator" "GREATER_OR_EQUAL" "Lcom/example/routinier/routinier/Comparison$Operator;" (.ref a_GREATER_OR_EQUAL)) : Con l Z n0 (⟨"com/example/routinier/routinier/OperatorHoldsPinLaw", "operator", "(I)Lcom/example/routinier/routinier/Comparison$Operator;"⟩ : MethodName) method_3_code 1 (some (.object "com/example/routinier/routinier/Comparison$Operator")) ({ frames := 0, cells := 0, slots := 0, locals := 0 } : Room) #[(.int (5 : Int32))] h (fun v h' => v = some (.ref a_GREATER_OR_EQUAL) ∧ h = h') := by
  refine Con.mk (Ls := #[.val (.int (5 : Int32))]) pn_com_example_routinier_routinier_OperatorHoldsPinLaw (ef1_i (5 : Int32)) ?_
  intro p e s m below meth c A hret hlk hnm
  refine Goes.blk A _ b1_0_1 (pc' := 1) (Ls' := #[.val (.int (5 : Int32))]) (st' := [(.int (5 : Int32))]) rfl ?_
  refine Goes.if1 A d1_1 (by decide) (pc' := 8) (by decide) (fun hc1 => ?_) (fun hc => absurd (cP_t (by decide)) hc)
  refine Goes.blk A _ b1_8_2 (pc' := 10) (Ls' := #[.val (.int (5 : Int32))]) (st' := [(.int (1 : Int32)), (.int (5 : Int32))]) rfl ?_
  refine Goes.if2 A d1_10 (by decide) (pc' := 17) (by decide) (fun hc2 => ?_) (fun hc => absurd (cP_t (by decide)) hc)
  refine Goes.blk A _ b1_17_2 (pc' := 19) (Ls' := #[.val (.int (5 : Int32))]) (st' := [(.int (2 : Int32)), (.int (5 : Int32))]) rfl ?_
  refine Goes.if2 A d1_19 (by decide) (pc' := 26) (by decide) (fun hc3 => ?_) (fun hc => absurd (cP_t (by decide)) hc)
  refine Goes.blk A _ b1_26_2 (pc' := 28) (Ls' := #[.val (.int (5 : Int32))]) (st' := [(.int (3 : Int32)), (.int (5 : Int32))]) rfl ?_
  refine Goes.if2 A d1_28 (by decide) (pc' := 35) (by decide) (fun hc4 => ?_) (fun hc => absurd (cP_t (by decide)) hc)
  refine Goes.blk A _ b1_35_2 (pc' := 37) (Ls' := #[.val (.int (5 : Int32))]) (st' := [(.int (4 : Int32)), (.int (5 : Int32))]) rfl ?_
  refine Goes.if2 A d1_37 (by decide) (pc' := 44) (by decide) (fun hc5 => ?_) (fun hc => absurd (cP_t (by decide)) hc)
  refine Goes.getS A (hw _ (List.mem_of_getElem? (i := 31) rfl)) Via.refl S_GREATER_OR_EQUAL d1_44 ?_
  exact Goes.retA A hret rfl rfl rfl hlk d1_47 (by decide) (by decide) ⟨rfl, rfl⟩
set_option maxRecDepth 65536 in
set_option maxHeartbeats 40000000 in
theorem km5 (l : Launch) (Z : State) (n0 : Nat) (a0 : Array Value) (hw : ∀ d ∈ tables_1, d.before a0 Z = true) (h : Heap)  : Con l Z n0 (⟨"com/example/routinier/routinier/OperatorHoldsPinLaw", "admitted", "(I)I"⟩ : MethodName) method_4_code 1 (some .int) ({ frames := 0, cells := 0, slots := 0, locals := 0 } : Room) #[(.int (5 : Int32))] h (fun v h' => v = some (.int (6 : Int32)) ∧ h = h') := by
  refine Con.mk (Ls := #[.val (.int (5 : Int32))]) pn_com_example_routinier_routinier_OperatorHoldsPinLaw (ef2_i (5 : Int32)) ?_
  intro p e s m below meth c A hret hlk hnm
  refine Goes.blk A _ b2_0_1 (pc' := 1) (Ls' := #[.val (.int (5 : Int32))]) (st' := [(.int (5 : Int32))]) rfl ?_
  refine Goes.if1 A d2_1 (by decide) (pc' := 6) (by decide) (fun hc1 => ?_) (fun hc => absurd (cP_t (by decide)) hc)
  refine Goes.blk A _ b2_6_2 (pc' := 8) (Ls' := #[.val (.int (5 : Int32))]) (st' := [(.int (1 : Int32)), (.int (5 : Int32))]) rfl ?_
  refine Goes.if2 A d2_8 (by decide) (pc' := 13) (by decide) (fun hc2 => ?_) (fun hc => absurd (cP_t (by decide)) hc)
  refine Goes.blk A _ b2_13_2 (pc' := 15) (Ls' := #[.val (.int (5 : Int32))]) (st' := [(.int (2 : Int32)), (.int (5 : Int32))]) rfl ?_
  refine Goes.if2 A d2_15 (by decide) (pc' := 20) (by decide) (fun hc3 => ?_) (fun hc => absurd (cP_t (by decide)) hc)
  refine Goes.blk A _ b2_20_2 (pc' := 22) (Ls' := #[.val (.int (5 : Int32))]) (st' := [(.int (3 : Int32)), (.int (5 : Int32))]) rfl ?_
  refine Goes.if2 A d2_22 (by decide) (pc' := 27) (by decide) (fun hc4 => ?_) (fun hc => absurd (cP_t (by decide)) hc)
  refine Goes.blk A _ b2_27_2 (pc' := 29) (Ls' := #[.val (.int (5 : Int32))]) (st' := [(.int (4 : Int32)), (.int (5 : Int32))]) rfl ?_
  refine Goes.if2 A d2_29 (by decide) (pc' := 34) (by decide) (fun hc5 => ?_) (fun hc => absurd (cP_t (by decide)) hc)
  refine Goes.blk A _ b2_34_1 (pc' := 36) (Ls' := #[.val (.int (5 : Int32))]) (st' := [(.int (6 : Int32))]) rfl ?_
  exact Goes.retI A hret hlk d2_36 (by decide) (by decide) ⟨rfl, rfl⟩
set_option maxRecDepth 65536 in
set_option maxHeartbeats 40000000 in
theorem ko (l : Launch) (Z : State) (n0 : Nat) (a0 : Array Value) (hw : ∀ d ∈ tables_1, d.before a0 Z = true) (h : Heap) (a : Addr) (o : Int32) (F_o : Fld Z h a "java/lang/Enum" "ordinal" "I" (.int o)) : Con l Z n0 (⟨"java/lang/Enum", "ordinal", "()I"⟩ : MethodName) jdk_37_method_2_code 1 (some .int) ({ frames := 0, cells := 0, slots := 0, locals := 0 } : Room) #[(.ref a)] h (fun v h' => v = some (.int o) ∧ h = h') := by
  refine Con.mk (Ls := #[.val (.ref a)]) pn_java_lang_Enum (ef4_r a) ?_
  intro p e s m below meth c A hret hlk hnm
  refine Goes.blk A _ b4_0_1 (pc' := 1) (Ls' := #[.val (.ref a)]) (st' := [(.ref a)]) rfl ?_
  refine Goes.getF A (hw _ (List.mem_of_getElem? (i := 23) rfl)) Via.refl F_o d4_1 ?_
  exact Goes.retI A hret hlk d4_4 (by decide) (by decide) ⟨rfl, rfl⟩
set_option maxRecDepth 65536 in
set_option maxHeartbeats 40000000 in
theorem kh0m (l : Launch) (Z : State) (n0 : Nat) (a0 : Array Value) (hw : ∀ d ∈ tables_1, d.before a0 Z = true) (h : Heap) (n : Int32) (hn : n.toInt < 0) (a : Addr) (E : Exa Z h a "com/example/routinier/routinier/Comparison$Operator") (F_o : Fld Z h a "java/lang/Enum" "ordinal" "I" (.int (0 : Int32))) : Con l Z n0 (⟨"com/example/routinier/routinier/Comparison$Operator", "holds", "(I)Z"⟩ : MethodName) prog_28_method_5_code 2 (some .boolean) ({ frames := 1, cells := 0, slots := 0, locals := 12 } : Room) #[(.ref a), (.int n)] h (fun v h' => v = some (.int (0 : Int32)) ∧ h = h') := by
  refine Con.mk (Ls := #[.val (.ref a), .val (.int n)]) pn_com_example_routinier_routinier_Comparison_Operator (ef3_ri a n) ?_
  intro p e s m below meth c A hret hlk hnm
  have l_0 : (0 : Int32).toInt = 0 := by decide
  refine Goes.blk A _ b3_0_1 (pc' := 1) (Ls' := #[.val (.ref a), .val (.int n)]) (st' := [(.ref a)]) rfl ?_
  refine Goes.virtU A (hw _ (List.mem_of_getElem? (i := 16) rfl)) (hw _ (List.mem_of_getElem? (i := 17) rfl)) (hw _ (List.mem_of_getElem? (i := 18) rfl)) (hw _ (List.mem_of_getElem? (i := 20) rfl)) (hw _ (List.mem_of_getElem? (i := 19) rfl)) (hw _ (List.mem_of_getElem? (i := 21) rfl)) (hw _ (List.mem_of_getElem? (i := 22) rfl)) d3_1 pd_248321 (by decide) E (argsL := []) (rest := []) rfl rfl rfl (W := 0) (Nat.le_of_ble_eq_true rfl) (by decide) (by decide) (by decide) (by decide) (ko l Z n0 a0 hw h a (0 : Int32) F_o) (fun v hq hh => ?_)
  obtain ⟨rfl, rfl⟩ := hh
  show Goes p l e _ s m _ below meth c n0 _ h 0 0 4 #[.val (.ref a), .val (.int n)] [(.int (0 : Int32))]
  refine Goes.swIn A d3_4 (by decide) (o := 50) (by decide) (by decide) (pc' := 54) (by decide) ?_
  refine Goes.blk A _ b3_54_1 (pc' := 55) (Ls' := #[.val (.ref a), .val (.int n)]) (st' := [(.int n)]) rfl ?_
  refine Goes.if1 A d3_55 (by decide) (pc' := 62) (by decide) (fun hc1 => ?_) (fun hc => (by have q9 := cP_nint hc; simp only [cI] at q9; omega))
  refine Goes.blk A _ b3_62_1 (pc' := 63) (Ls' := #[.val (.ref a), .val (.int n)]) (st' := [(.int (0 : Int32))]) rfl ?_
  refine Goes.jump A d3_63 (by decide) (pc' := 123) (by decide) ?_
  exact Goes.retB A hret (by simp) hlk d3_123 (z' := 0) (by decide) (by decide) (by decide) ⟨rfl, rfl⟩
set_option maxRecDepth 65536 in
set_option maxHeartbeats 40000000 in
theorem kh00 (l : Launch) (Z : State) (n0 : Nat) (a0 : Array Value) (hw : ∀ d ∈ tables_1, d.before a0 Z = true) (h : Heap) (a : Addr) (E : Exa Z h a "com/example/routinier/routinier/Comparison$Operator") (F_o : Fld Z h a "java/lang/Enum" "ordinal" "I" (.int (0 : Int32))) : Con l Z n0 (⟨"com/example/routinier/routinier/Comparison$Operator", "holds", "(I)Z"⟩ : MethodName) prog_28_method_5_code 2 (some .boolean) ({ frames := 1, cells := 0, slots := 0, locals := 12 } : Room) #[(.ref a), (.int (0 : Int32))] h (fun v h' => v = some (.int (1 : Int32)) ∧ h = h') := by
  refine Con.mk (Ls := #[.val (.ref a), .val (.int (0 : Int32))]) pn_com_example_routinier_routinier_Comparison_Operator (ef3_ri a (0 : Int32)) ?_
  intro p e s m below meth c A hret hlk hnm
  have l_0 : (0 : Int32).toInt = 0 := by decide
  refine Goes.blk A _ b3_0_1 (pc' := 1) (Ls' := #[.val (.ref a), .val (.int (0 : Int32))]) (st' := [(.ref a)]) rfl ?_
  refine Goes.virtU A (hw _ (List.mem_of_getElem? (i := 16) rfl)) (hw _ (List.mem_of_getElem? (i := 17) rfl)) (hw _ (List.mem_of_getElem? (i := 18) rfl)) (hw _ (List.mem_of_getElem? (i := 20) rfl)) (hw _ (List.mem_of_getElem? (i := 19) rfl)) (hw _ (List.mem_of_getElem? (i := 21) rfl)) (hw _ (List.mem_of_getElem? (i := 22) rfl)) d3_1 pd_248321 (by decide) E (argsL := []) (rest := []) rfl rfl rfl (W := 0) (Nat.le_of_ble_eq_true rfl) (by decide) (by decide) (by decide) (by decide) (ko l Z n0 a0 hw h a (0 : Int32) F_o) (fun v hq hh => ?_)
  obtain ⟨rfl, rfl⟩ := hh
  show Goes p l e _ s m _ below meth c n0 _ h 0 0 4 #[.val (.ref a), .val (.int (0 : Int32))] [(.int (0 : Int32))]
  refine Goes.swIn A d3_4 (by decide) (o := 50) (by decide) (by decide) (pc' := 54) (by decide) ?_
  refine Goes.blk A _ b3_54_1 (pc' := 55) (Ls' := #[.val (.ref a), .val (.int (0 : Int32))]) (st' := [(.int (0 : Int32))]) rfl ?_
  refine Goes.if1 A d3_55 (by decide) (pc' := 62) (by decide) (fun hc => absurd hc (cP_f (by decide))) (fun hc1 => ?_)
  refine Goes.blk A _ b3_58_1 (pc' := 59) (Ls' := #[.val (.ref a), .val (.int (0 : Int32))]) (st' := [(.int (1 : Int32))]) rfl ?_
  refine Goes.jump A d3_59 (by decide) (pc' := 123) (by decide) ?_
  exact Goes.retB A hret (by simp) hlk d3_123 (z' := 1) (by decide) (by decide) (by decide) ⟨rfl, rfl⟩
set_option maxRecDepth 65536 in
set_option maxHeartbeats 40000000 in
theorem kh0p (l : Launch) (Z : State) (n0 : Nat) (a0 : Array Value) (hw : ∀ d ∈ tables_1, d.before a0 Z = true) (h : Heap) (n : Int32) (hn : 0 < n.toInt) (a : Addr) (E : Exa Z h a "com/example/routinier/routinier/Comparison$Operator") (F_o : Fld Z h a "java/lang/Enum" "ordinal" "I" (.int (0 : Int32))) : Con l Z n0 (⟨"com/example/routinier/routinier/Comparison$Operator", "holds", "(I)Z"⟩ : MethodName) prog_28_method_5_code 2 (some .boolean) ({ frames := 1, cells := 0, slots := 0, locals := 12 } : Room) #[(.ref a), (.int n)] h (fun v h' => v = some (.int (0 : Int32)) ∧ h = h') := by
  refine Con.mk (Ls := #[.val (.ref a), .val (.int n)]) pn_com_example_routinier_routinier_Comparison_Operator (ef3_ri a n) ?_
  intro p e s m below meth c A hret hlk hnm
  have l_0 : (0 : Int32).toInt = 0 := by decide
  refine Goes.blk A _ b3_0_1 (pc' := 1) (Ls' := #[.val (.ref a), .val (.int n)]) (st' := [(.ref a)]) rfl ?_
  refine Goes.virtU A (hw _ (List.mem_of_getElem? (i := 16) rfl)) (hw _ (List.mem_of_getElem? (i := 17) rfl)) (hw _ (List.mem_of_getElem? (i := 18) rfl)) (hw _ (List.mem_of_getElem? (i := 20) rfl)) (hw _ (List.mem_of_getElem? (i := 19) rfl)) (hw _ (List.mem_of_getElem? (i := 21) rfl)) (hw _ (List.mem_of_getElem? (i := 22) rfl)) d3_1 pd_248321 (by decide) E (argsL := []) (rest := []) rfl rfl rfl (W := 0) (Nat.le_of_ble_eq_true rfl) (by decide) (by decide) (by decide) (by decide) (ko l Z n0 a0 hw h a (0 : Int32) F_o) (fun v hq hh => ?_)
  obtain ⟨rfl, rfl⟩ := hh
  show Goes p l e _ s m _ below meth c n0 _ h 0 0 4 #[.val (.ref a), .val (.int n)] [(.int (0 : Int32))]
  refine Goes.swIn A d3_4 (by decide) (o := 50) (by decide) (by decide) (pc' := 54) (by decide) ?_
  refine Goes.blk A _ b3_54_1 (pc' := 55) (Ls' := #[.val (.ref a), .val (.int n)]) (st' := [(.int n)]) rfl ?_
  refine Goes.if1 A d3_55 (by decide) (pc' := 62) (by decide) (fun hc1 => ?_) (fun hc => (by have q9 := cP_nint hc; simp only [cI] at q9; omega))
  refine Goes.blk A _ b3_62_1 (pc' := 63) (Ls' := #[.val (.ref a), .val (.int n)]) (st' := [(.int (0 : Int32))]) rfl ?_
  refine Goes.jump A d3_63 (by decide) (pc' := 123) (by decide) ?_
  exact Goes.retB A hret (by simp) hlk d3_123 (z' := 0) (by decide) (by decide) (by decide) ⟨rfl, rfl⟩
set_option maxRecDepth 65536 in
set_option maxHeartbeats 40000000 in
theorem kh1m (l : Launch) (Z : State) (n0 : Nat) (a0 : Array Value) (hw : ∀ d ∈ tables_1, d.before a0 Z = true) (h : Heap) (n : Int32) (hn : n.toInt < 0) (a : Addr) (E : Exa Z h a "com/example/routinier/routinier/Comparison$Operator") (F_o : Fld Z h a "java/lang/Enum" "ordinal" "I" (.int (1 : Int32))) : Con l Z n0 (⟨"com/example/routinier/routinier/Comparison$Operator", "holds", "(I)Z"⟩ : MethodName) prog_28_method_5_code 2 (some .boolean) ({ frames := 1, cells := 0, slots := 0, locals := 12 } : Room) #[(.ref a), (.int n)] h (fun v h' => v = some (.int (1 : Int32)) ∧ h = h') := by
  refine Con.mk (Ls := #[.val (.ref a), .val (.int n)]) pn_com_example_routinier_routinier_Comparison_Operator (ef3_ri a n) ?_
  intro p e s m below meth c A hret hlk hnm
  have l_0 : (0 : Int32).toInt = 0 := by decide
  refine Goes.blk A _ b3_0_1 (pc' := 1) (Ls' := #[.val (.ref a), .val (.int n)]) (st' := [(.ref a)]) rfl ?_
  refine Goes.virtU A (hw _ (List.mem_of_getElem? (i := 16) rfl)) (hw _ (List.mem_of_getElem? (i := 17) rfl)) (hw _ (List.mem_of_getElem? (i := 18) rfl)) (hw _ (List.mem_of_getElem? (i := 20) rfl)) (hw _ (List.mem_of_getElem? (i := 19) rfl)) (hw _ (List.mem_of_getElem? (i := 21) rfl)) (hw _ (List.mem_of_getElem? (i := 22) rfl)) d3_1 pd_248321 (by decide) E (argsL := []) (rest := []) rfl rfl rfl (W := 0) (Nat.le_of_ble_eq_true rfl) (by decide) (by decide) (by decide) (by decide) (ko l Z n0 a0 hw h a (1 : Int32) F_o) (fun v hq hh => ?_)
  obtain ⟨rfl, rfl⟩ := hh
  show Goes p l e _ s m _ below meth c n0 _ h 0 0 4 #[.val (.ref a), .val (.int n)] [(.int (1 : Int32))]
  refine Goes.swIn A d3_4 (by decide) (o := 62) (by decide) (by decide) (pc' := 66) (by decide) ?_
  refine Goes.blk A _ b3_66_1 (pc' := 67) (Ls' := #[.val (.ref a), .val (.int n)]) (st' := [(.int n)]) rfl ?_
  refine Goes.if1 A d3_67 (by decide) (pc' := 74) (by decide) (fun hc => (by have q9 := cP_int hc; simp only [cI] at q9; omega)) (fun hc1 => ?_)
  refine Goes.blk A _ b3_70_1 (pc' := 71) (Ls' := #[.val (.ref a), .val (.int n)]) (st' := [(.int (1 : Int32))]) rfl ?_
  refine Goes.jump A d3_71 (by decide) (pc' := 123) (by decide) ?_
  exact Goes.retB A hret (by simp) hlk d3_123 (z' := 1) (by decide) (by decide) (by decide) ⟨rfl, rfl⟩
set_option maxRecDepth 65536 in
set_option maxHeartbeats 40000000 in
theorem kh10 (l : Launch) (Z : State) (n0 : Nat) (a0 : Array Value) (hw : ∀ d ∈ tables_1, d.before a0 Z = true) (h : Heap) (a : Addr) (E : Exa Z h a "com/example/routinier/routinier/Comparison$Operator") (F_o : Fld Z h a "java/lang/Enum" "ordinal" "I" (.int (1 : Int32))) : Con l Z n0 (⟨"com/example/routinier/routinier/Comparison$Operator", "holds", "(I)Z"⟩ : MethodName) prog_28_method_5_code 2 (some .boolean) ({ frames := 1, cells := 0, slots := 0, locals := 12 } : Room) #[(.ref a), (.int (0 : Int32))] h (fun v h' => v = some (.int (0 : Int32)) ∧ h = h') := by
  refine Con.mk (Ls := #[.val (.ref a), .val (.int (0 : Int32))]) pn_com_example_routinier_routinier_Comparison_Operator (ef3_ri a (0 : Int32)) ?_
  intro p e s m below meth c A hret hlk hnm
  have l_0 : (0 : Int32).toInt = 0 := by decide
  refine Goes.blk A _ b3_0_1 (pc' := 1) (Ls' := #[.val (.ref a), .val (.int (0 : Int32))]) (st' := [(.ref a)]) rfl ?_
  refine Goes.virtU A (hw _ (List.mem_of_getElem? (i := 16) rfl)) (hw _ (List.mem_of_getElem? (i := 17) rfl)) (hw _ (List.mem_of_getElem? (i := 18) rfl)) (hw _ (List.mem_of_getElem? (i := 20) rfl)) (hw _ (List.mem_of_getElem? (i := 19) rfl)) (hw _ (List.mem_of_getElem? (i := 21) rfl)) (hw _ (List.mem_of_getElem? (i := 22) rfl)) d3_1 pd_248321 (by decide) E (argsL := []) (rest := []) rfl rfl rfl (W := 0) (Nat.le_of_ble_eq_true rfl) (by decide) (by decide) (by decide) (by decide) (ko l Z n0 a0 hw h a (1 : Int32) F_o) (fun v hq hh => ?_)
  obtain ⟨rfl, rfl⟩ := hh
  show Goes p l e _ s m _ below meth c n0 _ h 0 0 4 #[.val (.ref a), .val (.int (0 : Int32))] [(.int (1 : Int32))]
  refine Goes.swIn A d3_4 (by decide) (o := 62) (by decide) (by decide) (pc' := 66) (by decide) ?_
  refine Goes.blk A _ b3_66_1 (pc' := 67) (Ls' := #[.val (.ref a), .val (.int (0 : Int32))]) (st' := [(.int (0 : Int32))]) rfl ?_
  refine Goes.if1 A d3_67 (by decide) (pc' := 74) (by decide) (fun hc1 => ?_) (fun hc => absurd (cP_t (by decide)) hc)
  refine Goes.blk A _ b3_74_1 (pc' := 75) (Ls' := #[.val (.ref a), .val (.int (0 : Int32))]) (st' := [(.int (0 : Int32))]) rfl ?_
  refine Goes.jump A d3_75 (by decide) (pc' := 123) (by decide) ?_
  exact Goes.retB A hret (by simp) hlk d3_123 (z' := 0) (by decide) (by decide) (by decide) ⟨rfl, rfl⟩
set_option maxRecDepth 65536 in
set_option maxHeartbeats 40000000 in
theorem kh1p (l : Launch) (Z : State) (n0 : Nat) (a0 : Array Value) (hw : ∀ d ∈ tables_1, d.before a0 Z = true) (h : Heap) (n : Int32) (hn : 0 < n.toInt) (a : Addr) (E : Exa Z h a "com/example/routinier/routinier/Comparison$Operator") (F_o : Fld Z h a "java/lang/Enum" "ordinal" "I" (.int (1 : Int32))) : Con l Z n0 (⟨"com/example/routinier/routinier/Comparison$Operator", "holds", "(I)Z"⟩ : MethodName) prog_28_method_5_code 2 (some .boolean) ({ frames := 1, cells := 0, slots := 0, locals := 12 } : Room) #[(.ref a), (.int n)] h (fun v h' => v = some (.int (1 : Int32)) ∧ h = h') := by
  refine Con.mk (Ls := #[.val (.ref a), .val (.int n)]) pn_com_example_routinier_routinier_Comparison_Operator (ef3_ri a n) ?_
  intro p e s m below meth c A hret hlk hnm
  have l_0 : (0 : Int32).toInt = 0 := by decide
  refine Goes.blk A _ b3_0_1 (pc' := 1) (Ls' := #[.val (.ref a), .val (.int n)]) (st' := [(.ref a)]) rfl ?_
  refine Goes.virtU A (hw _ (List.mem_of_getElem? (i := 16) rfl)) (hw _ (List.mem_of_getElem? (i := 17) rfl)) (hw _ (List.mem_of_getElem? (i := 18) rfl)) (hw _ (List.mem_of_getElem? (i := 20) rfl)) (hw _ (List.mem_of_getElem? (i := 19) rfl)) (hw _ (List.mem_of_getElem? (i := 21) rfl)) (hw _ (List.mem_of_getElem? (i := 22) rfl)) d3_1 pd_248321 (by decide) E (argsL := []) (rest := []) rfl rfl rfl (W := 0) (Nat.le_of_ble_eq_true rfl) (by decide) (by decide) (by decide) (by decide) (ko l Z n0 a0 hw h a (1 : Int32) F_o) (fun v hq hh => ?_)
  obtain ⟨rfl, rfl⟩ := hh
  show Goes p l e _ s m _ below meth c n0 _ h 0 0 4 #[.val (.ref a), .val (.int n)] [(.int (1 : Int32))]
  refine Goes.swIn A d3_4 (by decide) (o := 62) (by decide) (by decide) (pc' := 66) (by decide) ?_
  refine Goes.blk A _ b3_66_1 (pc' := 67) (Ls' := #[.val (.ref a), .val (.int n)]) (st' := [(.int n)]) rfl ?_
  refine Goes.if1 A d3_67 (by decide) (pc' := 74) (by decide) (fun hc => (by have q9 := cP_int hc; simp only [cI] at q9; omega)) (fun hc1 => ?_)
  refine Goes.blk A _ b3_70_1 (pc' := 71) (Ls' := #[.val (.ref a), .val (.int n)]) (st' := [(.int (1 : Int32))]) rfl ?_
  refine Goes.jump A d3_71 (by decide) (pc' := 123) (by decide) ?_
  exact Goes.retB A hret (by simp) hlk d3_123 (z' := 1) (by decide) (by decide) (by decide) ⟨rfl, rfl⟩
set_option maxRecDepth 65536 in
set_option maxHeartbeats 40000000 in
theorem kh2m (l : Launch) (Z : State) (n0 : Nat) (a0 : Array Value) (hw : ∀ d ∈ tables_1, d.before a0 Z = true) (h : Heap) (n : Int32) (hn : n.toInt < 0) (a : Addr) (E : Exa Z h a "com/example/routinier/routinier/Comparison$Operator") (F_o : Fld Z h a "java/lang/Enum" "ordinal" "I" (.int (2 : Int32))) : Con l Z n0 (⟨"com/example/routinier/routinier/Comparison$Operator", "holds", "(I)Z"⟩ : MethodName) prog_28_method_5_code 2 (some .boolean) ({ frames := 1, cells := 0, slots := 0, locals := 12 } : Room) #[(.ref a), (.int n)] h (fun v h' => v = some (.int (1 : Int32)) ∧ h = h') := by
  refine Con.mk (Ls := #[.val (.ref a), .val (.int n)]) pn_com_example_routinier_routinier_Comparison_Operator (ef3_ri a n) ?_
  intro p e s m below meth c A hret hlk hnm
  have l_0 : (0 : Int32).toInt = 0 := by decide
  refine Goes.blk A _ b3_0_1 (pc' := 1) (Ls' := #[.val (.ref a), .val (.int n)]) (st' := [(.ref a)]) rfl ?_
  refine Goes.virtU A (hw _ (List.mem_of_getElem? (i := 16) rfl)) (hw _ (List.mem_of_getElem? (i := 17) rfl)) (hw _ (List.mem_of_getElem? (i := 18) rfl)) (hw _ (List.mem_of_getElem? (i := 20) rfl)) (hw _ (List.mem_of_getElem? (i := 19) rfl)) (hw _ (List.mem_of_getElem? (i := 21) rfl)) (hw _ (List.mem_of_getElem? (i := 22) rfl)) d3_1 pd_248321 (by decide) E (argsL := []) (rest := []) rfl rfl rfl (W := 0) (Nat.le_of_ble_eq_true rfl) (by decide) (by decide) (by decide) (by decide) (ko l Z n0 a0 hw h a (2 : Int32) F_o) (fun v hq hh => ?_)
  obtain ⟨rfl, rfl⟩ := hh
  show Goes p l e _ s m _ below meth c n0 _ h 0 0 4 #[.val (.ref a), .val (.int n)] [(.int (2 : Int32))]
  refine Goes.swIn A d3_4 (by decide) (o := 74) (by decide) (by decide) (pc' := 78) (by decide) ?_
  refine Goes.blk A _ b3_78_1 (pc' := 79) (Ls' := #[.val (.ref a), .val (.int n)]) (st' := [(.int n)]) rfl ?_
  refine Goes.if1 A d3_79 (by decide) (pc' := 86) (by decide) (fun hc => (by have q9 := cP_int hc; simp only [cI] at q9; omega)) (fun hc1 => ?_)
  refine Goes.blk A _ b3_82_1 (pc' := 83) (Ls' := #[.val (.ref a), .val (.int n)]) (st' := [(.int (1 : Int32))]) rfl ?_
  refine Goes.jump A d3_83 (by decide) (pc' := 123) (by decide) ?_
  exact Goes.retB A hret (by simp) hlk d3_123 (z' := 1) (by decide) (by decide) (by decide) ⟨rfl, rfl⟩
set_option maxRecDepth 65536 in
set_option maxHeartbeats 40000000 in
theorem kh20 (l : Launch) (Z : State) (n0 : Nat) (a0 : Array Value) (hw : ∀ d ∈ tables_1, d.before a0 Z = true) (h : Heap) (a : Addr) (E : Exa Z h a "com/example/routinier/routinier/Comparison$Operator") (F_o : Fld Z h a "java/lang/Enum" "ordinal" "I" (.int (2 : Int32))) : Con l Z n0 (⟨"com/example/routinier/routinier/Comparison$Operator", "holds", "(I)Z"⟩ : MethodName) prog_28_method_5_code 2 (some .boolean) ({ frames := 1, cells := 0, slots := 0, locals := 12 } : Room) #[(.ref a), (.int (0 : Int32))] h (fun v h' => v = some (.int (0 : Int32)) ∧ h = h') := by
  refine Con.mk (Ls := #[.val (.ref a), .val (.int (0 : Int32))]) pn_com_example_routinier_routinier_Comparison_Operator (ef3_ri a (0 : Int32)) ?_
  intro p e s m below meth c A hret hlk hnm
  have l_0 : (0 : Int32).toInt = 0 := by decide
  refine Goes.blk A _ b3_0_1 (pc' := 1) (Ls' := #[.val (.ref a), .val (.int (0 : Int32))]) (st' := [(.ref a)]) rfl ?_
  refine Goes.virtU A (hw _ (List.mem_of_getElem? (i := 16) rfl)) (hw _ (List.mem_of_getElem? (i := 17) rfl)) (hw _ (List.mem_of_getElem? (i := 18) rfl)) (hw _ (List.mem_of_getElem? (i := 20) rfl)) (hw _ (List.mem_of_getElem? (i := 19) rfl)) (hw _ (List.mem_of_getElem? (i := 21) rfl)) (hw _ (List.mem_of_getElem? (i := 22) rfl)) d3_1 pd_248321 (by decide) E (argsL := []) (rest := []) rfl rfl rfl (W := 0) (Nat.le_of_ble_eq_true rfl) (by decide) (by decide) (by decide) (by decide) (ko l Z n0 a0 hw h a (2 : Int32) F_o) (fun v hq hh => ?_)
  obtain ⟨rfl, rfl⟩ := hh
  show Goes p l e _ s m _ below meth c n0 _ h 0 0 4 #[.val (.ref a), .val (.int (0 : Int32))] [(.int (2 : Int32))]
  refine Goes.swIn A d3_4 (by decide) (o := 74) (by decide) (by decide) (pc' := 78) (by decide) ?_
  refine Goes.blk A _ b3_78_1 (pc' := 79) (Ls' := #[.val (.ref a), .val (.int (0 : Int32))]) (st' := [(.int (0 : Int32))]) rfl ?_
  refine Goes.if1 A d3_79 (by decide) (pc' := 86) (by decide) (fun hc1 => ?_) (fun hc => absurd (cP_t (by decide)) hc)
  refine Goes.blk A _ b3_86_1 (pc' := 87) (Ls' := #[.val (.ref a), .val (.int (0 : Int32))]) (st' := [(.int (0 : Int32))]) rfl ?_
  refine Goes.jump A d3_87 (by decide) (pc' := 123) (by decide) ?_
  exact Goes.retB A hret (by simp) hlk d3_123 (z' := 0) (by decide) (by decide) (by decide) ⟨rfl, rfl⟩
set_option maxRecDepth 65536 in
set_option maxHeartbeats 40000000 in
theorem kh2p (l : Launch) (Z : State) (n0 : Nat) (a0 : Array Value) (hw : ∀ d ∈ tables_1, d.before a0 Z = true) (h : Heap) (n : Int32) (hn : 0 < n.toInt) (a : Addr) (E : Exa Z h a "com/example/routinier/routinier/Comparison$Operator") (F_o : Fld Z h a "java/lang/Enum" "ordinal" "I" (.int (2 : Int32))) : Con l Z n0 (⟨"com/example/routinier/routinier/Comparison$Operator", "holds", "(I)Z"⟩ : MethodName) prog_28_method_5_code 2 (some .boolean) ({ frames := 1, cells := 0, slots := 0, locals := 12 } : Room) #[(.ref a), (.int n)] h (fun v h' => v = some (.int (0 : Int32)) ∧ h = h') := by
  refine Con.mk (Ls := #[.val (.ref a), .val (.int n)]) pn_com_example_routinier_routinier_Comparison_Operator (ef3_ri a n) ?_
  intro p e s m below meth c A hret hlk hnm
  have l_0 : (0 : Int32).toInt = 0 := by decide
  refine Goes.blk A _ b3_0_1 (pc' := 1) (Ls' := #[.val (.ref a), .val (.int n)]) (st' := [(.ref a)]) rfl ?_
  refine Goes.virtU A (hw _ (List.mem_of_getElem? (i := 16) rfl)) (hw _ (List.mem_of_getElem? (i := 17) rfl)) (hw _ (List.mem_of_getElem? (i := 18) rfl)) (hw _ (List.mem_of_getElem? (i := 20) rfl)) (hw _ (List.mem_of_getElem? (i := 19) rfl)) (hw _ (List.mem_of_getElem? (i := 21) rfl)) (hw _ (List.mem_of_getElem? (i := 22) rfl)) d3_1 pd_248321 (by decide) E (argsL := []) (rest := []) rfl rfl rfl (W := 0) (Nat.le_of_ble_eq_true rfl) (by decide) (by decide) (by decide) (by decide) (ko l Z n0 a0 hw h a (2 : Int32) F_o) (fun v hq hh => ?_)
  obtain ⟨rfl, rfl⟩ := hh
  show Goes p l e _ s m _ below meth c n0 _ h 0 0 4 #[.val (.ref a), .val (.int n)] [(.int (2 : Int32))]
  refine Goes.swIn A d3_4 (by decide) (o := 74) (by decide) (by decide) (pc' := 78) (by decide) ?_
  refine Goes.blk A _ b3_78_1 (pc' := 79) (Ls' := #[.val (.ref a), .val (.int n)]) (st' := [(.int n)]) rfl ?_
  refine Goes.if1 A d3_79 (by decide) (pc' := 86) (by decide) (fun hc1 => ?_) (fun hc => (by have q9 := cP_nint hc; simp only [cI] at q9; omega))
  refine Goes.blk A _ b3_86_1 (pc' := 87) (Ls' := #[.val (.ref a), .val (.int n)]) (st' := [(.int (0 : Int32))]) rfl ?_
  refine Goes.jump A d3_87 (by decide) (pc' := 123) (by decide) ?_
  exact Goes.retB A hret (by simp) hlk d3_123 (z' := 0) (by decide) (by decide) (by decide) ⟨rfl, rfl⟩
set_option maxRecDepth 65536 in
set_option maxHeartbeats 40000000 in
theorem kh3m (l : Launch) (Z : State) (n0 : Nat) (a0 : Array Value) (hw : ∀ d ∈ tables_1, d.before a0 Z = true) (h : Heap) (n : Int32) (hn : n.toInt < 0) (a : Addr) (E : Exa Z h a "com/example/routinier/routinier/Comparison$Operator") (F_o : Fld Z h a "java/lang/Enum" "ordinal" "I" (.int (3 : Int32))) : Con l Z n0 (⟨"com/example/routinier/routinier/Comparison$Operator", "holds", "(I)Z"⟩ : MethodName) prog_28_method_5_code 2 (some .boolean) ({ frames := 1, cells := 0, slots := 0, locals := 12 } : Room) #[(.ref a), (.int n)] h (fun v h' => v = some (.int (1 : Int32)) ∧ h = h') := by
  refine Con.mk (Ls := #[.val (.ref a), .val (.int n)]) pn_com_example_routinier_routinier_Comparison_Operator (ef3_ri a n) ?_
  intro p e s m below meth c A hret hlk hnm
  have l_0 : (0 : Int32).toInt = 0 := by decide
  refine Goes.blk A _ b3_0_1 (pc' := 1) (Ls' := #[.val (.ref a), .val (.int n)]) (st' := [(.ref a)]) rfl ?_
  refine Goes.virtU A (hw _ (List.mem_of_getElem? (i := 16) rfl)) (hw _ (List.mem_of_getElem? (i := 17) rfl)) (hw _ (List.mem_of_getElem? (i := 18) rfl)) (hw _ (List.mem_of_getElem? (i := 20) rfl)) (hw _ (List.mem_of_getElem? (i := 19) rfl)) (hw _ (List.mem_of_getElem? (i := 21) rfl)) (hw _ (List.mem_of_getElem? (i := 22) rfl)) d3_1 pd_248321 (by decide) E (argsL := []) (rest := []) rfl rfl rfl (W := 0) (Nat.le_of_ble_eq_true rfl) (by decide) (by decide) (by decide) (by decide) (ko l Z n0 a0 hw h a (3 : Int32) F_o) (fun v hq hh => ?_)
  obtain ⟨rfl, rfl⟩ := hh
  show Goes p l e _ s m _ below meth c n0 _ h 0 0 4 #[.val (.ref a), .val (.int n)] [(.int (3 : Int32))]
  refine Goes.swIn A d3_4 (by decide) (o := 86) (by decide) (by decide) (pc' := 90) (by decide) ?_
  refine Goes.blk A _ b3_90_1 (pc' := 91) (Ls' := #[.val (.ref a), .val (.int n)]) (st' := [(.int n)]) rfl ?_
  refine Goes.if1 A d3_91 (by decide) (pc' := 98) (by decide) (fun hc => (by have q9 := cP_int hc; simp only [cI] at q9; omega)) (fun hc1 => ?_)
  refine Goes.blk A _ b3_94_1 (pc' := 95) (Ls' := #[.val (.ref a), .val (.int n)]) (st' := [(.int (1 : Int32))]) rfl ?_
  refine Goes.jump A d3_95 (by decide) (pc' := 123) (by decide) ?_
  exact Goes.retB A hret (by simp) hlk d3_123 (z' := 1) (by decide) (by decide) (by decide) ⟨rfl, rfl⟩
set_option maxRecDepth 65536 in
set_option maxHeartbeats 40000000 in
theorem kh30 (l : Launch) (Z : State) (n0 : Nat) (a0 : Array Value) (hw : ∀ d ∈ tables_1, d.before a0 Z = true) (h : Heap) (a : Addr) (E : Exa Z h a "com/example/routinier/routinier/Comparison$Operator") (F_o : Fld Z h a "java/lang/Enum" "ordinal" "I" (.int (3 : Int32))) : Con l Z n0 (⟨"com/example/routinier/routinier/Comparison$Operator", "holds", "(I)Z"⟩ : MethodName) prog_28_method_5_code 2 (some .boolean) ({ frames := 1, cells := 0, slots := 0, locals := 12 } : Room) #[(.ref a), (.int (0 : Int32))] h (fun v h' => v = some (.int (1 : Int32)) ∧ h = h') := by
  refine Con.mk (Ls := #[.val (.ref a), .val (.int (0 : Int32))]) pn_com_example_routinier_routinier_Comparison_Operator (ef3_ri a (0 : Int32)) ?_
  intro p e s m below meth c A hret hlk hnm
  have l_0 : (0 : Int32).toInt = 0 := by decide
  refine Goes.blk A _ b3_0_1 (pc' := 1) (Ls' := #[.val (.ref a), .val (.int (0 : Int32))]) (st' := [(.ref a)]) rfl ?_
  refine Goes.virtU A (hw _ (List.mem_of_getElem? (i := 16) rfl)) (hw _ (List.mem_of_getElem? (i := 17) rfl)) (hw _ (List.mem_of_getElem? (i := 18) rfl)) (hw _ (List.mem_of_getElem? (i := 20) rfl)) (hw _ (List.mem_of_getElem? (i := 19) rfl)) (hw _ (List.mem_of_getElem? (i := 21) rfl)) (hw _ (List.mem_of_getElem? (i := 22) rfl)) d3_1 pd_248321 (by decide) E (argsL := []) (rest := []) rfl rfl rfl (W := 0) (Nat.le_of_ble_eq_true rfl) (by decide) (by decide) (by decide) (by decide) (ko l Z n0 a0 hw h a (3 : Int32) F_o) (fun v hq hh => ?_)
  obtain ⟨rfl, rfl⟩ := hh
  show Goes p l e _ s m _ below meth c n0 _ h 0 0 4 #[.val (.ref a), .val (.int (0 : Int32))] [(.int (3 : Int32))]
  refine Goes.swIn A d3_4 (by decide) (o := 86) (by decide) (by decide) (pc' := 90) (by decide) ?_
  refine Goes.blk A _ b3_90_1 (pc' := 91) (Ls' := #[.val (.ref a), .val (.int (0 : Int32))]) (st' := [(.int (0 : Int32))]) rfl ?_
  refine Goes.if1 A d3_91 (by decide) (pc' := 98) (by decide) (fun hc => absurd hc (cP_f (by decide))) (fun hc1 => ?_)
  refine Goes.blk A _ b3_94_1 (pc' := 95) (Ls' := #[.val (.ref a), .val (.int (0 : Int32))]) (st' := [(.int (1 : Int32))]) rfl ?_
  refine Goes.jump A d3_95 (by decide) (pc' := 123) (by decide) ?_
  exact Goes.retB A hret (by simp) hlk d3_123 (z' := 1) (by decide) (by decide) (by decide) ⟨rfl, rfl⟩
set_option maxRecDepth 65536 in
set_option maxHeartbeats 40000000 in
theorem kh3p (l : Launch) (Z : State) (n0 : Nat) (a0 : Array Value) (hw : ∀ d ∈ tables_1, d.before a0 Z = true) (h : Heap) (n : Int32) (hn : 0 < n.toInt) (a : Addr) (E : Exa Z h a "com/example/routinier/routinier/Comparison$Operator") (F_o : Fld Z h a "java/lang/Enum" "ordinal" "I" (.int (3 : Int32))) : Con l Z n0 (⟨"com/example/routinier/routinier/Comparison$Operator", "holds", "(I)Z"⟩ : MethodName) prog_28_method_5_code 2 (some .boolean) ({ frames := 1, cells := 0, slots := 0, locals := 12 } : Room) #[(.ref a), (.int n)] h (fun v h' => v = some (.int (0 : Int32)) ∧ h = h') := by
  refine Con.mk (Ls := #[.val (.ref a), .val (.int n)]) pn_com_example_routinier_routinier_Comparison_Operator (ef3_ri a n) ?_
  intro p e s m below meth c A hret hlk hnm
  have l_0 : (0 : Int32).toInt = 0 := by decide
  refine Goes.blk A _ b3_0_1 (pc' := 1) (Ls' := #[.val (.ref a), .val (.int n)]) (st' := [(.ref a)]) rfl ?_
  refine Goes.virtU A (hw _ (List.mem_of_getElem? (i := 16) rfl)) (hw _ (List.mem_of_getElem? (i := 17) rfl)) (hw _ (List.mem_of_getElem? (i := 18) rfl)) (hw _ (List.mem_of_getElem? (i := 20) rfl)) (hw _ (List.mem_of_getElem? (i := 19) rfl)) (hw _ (List.mem_of_getElem? (i := 21) rfl)) (hw _ (List.mem_of_getElem? (i := 22) rfl)) d3_1 pd_248321 (by decide) E (argsL := []) (rest := []) rfl rfl rfl (W := 0) (Nat.le_of_ble_eq_true rfl) (by decide) (by decide) (by decide) (by decide) (ko l Z n0 a0 hw h a (3 : Int32) F_o) (fun v hq hh => ?_)
  obtain ⟨rfl, rfl⟩ := hh
  show Goes p l e _ s m _ below meth c n0 _ h 0 0 4 #[.val (.ref a), .val (.int n)] [(.int (3 : Int32))]
  refine Goes.swIn A d3_4 (by decide) (o := 86) (by decide) (by decide) (pc' := 90) (by decide) ?_
  refine Goes.blk A _ b3_90_1 (pc' := 91) (Ls' := #[.val (.ref a), .val (.int n)]) (st' := [(.int n)]) rfl ?_
  refine Goes.if1 A d3_91 (by decide) (pc' := 98) (by decide) (fun hc1 => ?_) (fun hc => (by have q9 := cP_nint hc; simp only [cI] at q9; omega))
  refine Goes.blk A _ b3_98_1 (pc' := 99) (Ls' := #[.val (.ref a), .val (.int n)]) (st' := [(.int (0 : Int32))]) rfl ?_
  refine Goes.jump A d3_99 (by decide) (pc' := 123) (by decide) ?_
  exact Goes.retB A hret (by simp) hlk d3_123 (z' := 0) (by decide) (by decide) (by decide) ⟨rfl, rfl⟩
set_option maxRecDepth 65536 in
set_option maxHeartbeats 40000000 in
theorem kh4m (l : Launch) (Z : State) (n0 : Nat) (a0 : Array Value) (hw : ∀ d ∈ tables_1, d.before a0 Z = true) (h : Heap) (n : Int32) (hn : n.toInt < 0) (a : Addr) (E : Exa Z h a "com/example/routinier/routinier/Comparison$Operator") (F_o : Fld Z h a "java/lang/Enum" "ordinal" "I" (.int (4 : Int32))) : Con l Z n0 (⟨"com/example/routinier/routinier/Comparison$Operator", "holds", "(I)Z"⟩ : MethodName) prog_28_method_5_code 2 (some .boolean) ({ frames := 1, cells := 0, slots := 0, locals := 12 } : Room) #[(.ref a), (.int n)] h (fun v h' => v = some (.int (0 : Int32)) ∧ h = h') := by
  refine Con.mk (Ls := #[.val (.ref a), .val (.int n)]) pn_com_example_routinier_routinier_Comparison_Operator (ef3_ri a n) ?_
  intro p e s m below meth c A hret hlk hnm
  have l_0 : (0 : Int32).toInt = 0 := by decide
  refine Goes.blk A _ b3_0_1 (pc' := 1) (Ls' := #[.val (.ref a), .val (.int n)]) (st' := [(.ref a)]) rfl ?_
  refine Goes.virtU A (hw _ (List.mem_of_getElem? (i := 16) rfl)) (hw _ (List.mem_of_getElem? (i := 17) rfl)) (hw _ (List.mem_of_getElem? (i := 18) rfl)) (hw _ (List.mem_of_getElem? (i := 20) rfl)) (hw _ (List.mem_of_getElem? (i := 19) rfl)) (hw _ (List.mem_of_getElem? (i := 21) rfl)) (hw _ (List.mem_of_getElem? (i := 22) rfl)) d3_1 pd_248321 (by decide) E (argsL := []) (rest := []) rfl rfl rfl (W := 0) (Nat.le_of_ble_eq_true rfl) (by decide) (by decide) (by decide) (by decide) (ko l Z n0 a0 hw h a (4 : Int32) F_o) (fun v hq hh => ?_)
  obtain ⟨rfl, rfl⟩ := hh
  show Goes p l e _ s m _ below meth c n0 _ h 0 0 4 #[.val (.ref a), .val (.int n)] [(.int (4 : Int32))]
  refine Goes.swIn A d3_4 (by decide) (o := 98) (by decide) (by decide) (pc' := 102) (by decide) ?_
  refine Goes.blk A _ b3_102_1 (pc' := 103) (Ls' := #[.val (.ref a), .val (.int n)]) (st' := [(.int n)]) rfl ?_
  refine Goes.if1 A d3_103 (by decide) (pc' := 110) (by decide) (fun hc1 => ?_) (fun hc => (by have q9 := cP_nint hc; simp only [cI] at q9; omega))
  refine Goes.blk A _ b3_110_1 (pc' := 111) (Ls' := #[.val (.ref a), .val (.int n)]) (st' := [(.int (0 : Int32))]) rfl ?_
  refine Goes.jump A d3_111 (by decide) (pc' := 123) (by decide) ?_
  exact Goes.retB A hret (by simp) hlk d3_123 (z' := 0) (by decide) (by decide) (by decide) ⟨rfl, rfl⟩
set_option maxRecDepth 65536 in
set_option maxHeartbeats 40000000 in
theorem kh40 (l : Launch) (Z : State) (n0 : Nat) (a0 : Array Value) (hw : ∀ d ∈ tables_1, d.before a0 Z = true) (h : Heap) (a : Addr) (E : Exa Z h a "com/example/routinier/routinier/Comparison$Operator") (F_o : Fld Z h a "java/lang/Enum" "ordinal" "I" (.int (4 : Int32))) : Con l Z n0 (⟨"com/example/routinier/routinier/Comparison$Operator", "holds", "(I)Z"⟩ : MethodName) prog_28_method_5_code 2 (some .boolean) ({ frames := 1, cells := 0, slots := 0, locals := 12 } : Room) #[(.ref a), (.int (0 : Int32))] h (fun v h' => v = some (.int (0 : Int32)) ∧ h = h') := by
  refine Con.mk (Ls := #[.val (.ref a), .val (.int (0 : Int32))]) pn_com_example_routinier_routinier_Comparison_Operator (ef3_ri a (0 : Int32)) ?_
  intro p e s m below meth c A hret hlk hnm
  have l_0 : (0 : Int32).toInt = 0 := by decide
  refine Goes.blk A _ b3_0_1 (pc' := 1) (Ls' := #[.val (.ref a), .val (.int (0 : Int32))]) (st' := [(.ref a)]) rfl ?_
  refine Goes.virtU A (hw _ (List.mem_of_getElem? (i := 16) rfl)) (hw _ (List.mem_of_getElem? (i := 17) rfl)) (hw _ (List.mem_of_getElem? (i := 18) rfl)) (hw _ (List.mem_of_getElem? (i := 20) rfl)) (hw _ (List.mem_of_getElem? (i := 19) rfl)) (hw _ (List.mem_of_getElem? (i := 21) rfl)) (hw _ (List.mem_of_getElem? (i := 22) rfl)) d3_1 pd_248321 (by decide) E (argsL := []) (rest := []) rfl rfl rfl (W := 0) (Nat.le_of_ble_eq_true rfl) (by decide) (by decide) (by decide) (by decide) (ko l Z n0 a0 hw h a (4 : Int32) F_o) (fun v hq hh => ?_)
  obtain ⟨rfl, rfl⟩ := hh
  show Goes p l e _ s m _ below meth c n0 _ h 0 0 4 #[.val (.ref a), .val (.int (0 : Int32))] [(.int (4 : Int32))]
  refine Goes.swIn A d3_4 (by decide) (o := 98) (by decide) (by decide) (pc' := 102) (by decide) ?_
  refine Goes.blk A _ b3_102_1 (pc' := 103) (Ls' := #[.val (.ref a), .val (.int (0 : Int32))]) (st' := [(.int (0 : Int32))]) rfl ?_
  refine Goes.if1 A d3_103 (by decide) (pc' := 110) (by decide) (fun hc1 => ?_) (fun hc => absurd (cP_t (by decide)) hc)
  refine Goes.blk A _ b3_110_1 (pc' := 111) (Ls' := #[.val (.ref a), .val (.int (0 : Int32))]) (st' := [(.int (0 : Int32))]) rfl ?_
  refine Goes.jump A d3_111 (by decide) (pc' := 123) (by decide) ?_
  exact Goes.retB A hret (by simp) hlk d3_123 (z' := 0) (by decide) (by decide) (by decide) ⟨rfl, rfl⟩
set_option maxRecDepth 65536 in
set_option maxHeartbeats 40000000 in
theorem kh4p (l : Launch) (Z : State) (n0 : Nat) (a0 : Array Value) (hw : ∀ d ∈ tables_1, d.before a0 Z = true) (h : Heap) (n : Int32) (hn : 0 < n.toInt) (a : Addr) (E : Exa Z h a "com/example/routinier/routinier/Comparison$Operator") (F_o : Fld Z h a "java/lang/Enum" "ordinal" "I" (.int (4 : Int32))) : Con l Z n0 (⟨"com/example/routinier/routinier/Comparison$Operator", "holds", "(I)Z"⟩ : MethodName) prog_28_method_5_code 2 (some .boolean) ({ frames := 1, cells := 0, slots := 0, locals := 12 } : Room) #[(.ref a), (.int n)] h (fun v h' => v = some (.int (1 : Int32)) ∧ h = h') := by
  refine Con.mk (Ls := #[.val (.ref a), .val (.int n)]) pn_com_example_routinier_routinier_Comparison_Operator (ef3_ri a n) ?_
  intro p e s m below meth c A hret hlk hnm
  have l_0 : (0 : Int32).toInt = 0 := by decide
  refine Goes.blk A _ b3_0_1 (pc' := 1) (Ls' := #[.val (.ref a), .val (.int n)]) (st' := [(.ref a)]) rfl ?_
  refine Goes.virtU A (hw _ (List.mem_of_getElem? (i := 16) rfl)) (hw _ (List.mem_of_getElem? (i := 17) rfl)) (hw _ (List.mem_of_getElem? (i := 18) rfl)) (hw _ (List.mem_of_getElem? (i := 20) rfl)) (hw _ (List.mem_of_getElem? (i := 19) rfl)) (hw _ (List.mem_of_getElem? (i := 21) rfl)) (hw _ (List.mem_of_getElem? (i := 22) rfl)) d3_1 pd_248321 (by decide) E (argsL := []) (rest := []) rfl rfl rfl (W := 0) (Nat.le_of_ble_eq_true rfl) (by decide) (by decide) (by decide) (by decide) (ko l Z n0 a0 hw h a (4 : Int32) F_o) (fun v hq hh => ?_)
  obtain ⟨rfl, rfl⟩ := hh
  show Goes p l e _ s m _ below meth c n0 _ h 0 0 4 #[.val (.ref a), .val (.int n)] [(.int (4 : Int32))]
  refine Goes.swIn A d3_4 (by decide) (o := 98) (by decide) (by decide) (pc' := 102) (by decide) ?_
  refine Goes.blk A _ b3_102_1 (pc' := 103) (Ls' := #[.val (.ref a), .val (.int n)]) (st' := [(.int n)]) rfl ?_
  refine Goes.if1 A d3_103 (by decide) (pc' := 110) (by decide) (fun hc => (by have q9 := cP_int hc; simp only [cI] at q9; omega)) (fun hc1 => ?_)
  refine Goes.blk A _ b3_106_1 (pc' := 107) (Ls' := #[.val (.ref a), .val (.int n)]) (st' := [(.int (1 : Int32))]) rfl ?_
  refine Goes.jump A d3_107 (by decide) (pc' := 123) (by decide) ?_
  exact Goes.retB A hret (by simp) hlk d3_123 (z' := 1) (by decide) (by decide) (by decide) ⟨rfl, rfl⟩
set_option maxRecDepth 65536 in
set_option maxHeartbeats 40000000 in
theorem kh5m (l : Launch) (Z : State) (n0 : Nat) (a0 : Array Value) (hw : ∀ d ∈ tables_1, d.before a0 Z = true) (h : Heap) (n : Int32) (hn : n.toInt < 0) (a : Addr) (E : Exa Z h a "com/example/routinier/routinier/Comparison$Operator") (F_o : Fld Z h a "java/lang/Enum" "ordinal" "I" (.int (5 : Int32))) : Con l Z n0 (⟨"com/example/routinier/routinier/Comparison$Operator", "holds", "(I)Z"⟩ : MethodName) prog_28_method_5_code 2 (some .boolean) ({ frames := 1, cells := 0, slots := 0, locals := 12 } : Room) #[(.ref a), (.int n)] h (fun v h' => v = some (.int (0 : Int32)) ∧ h = h') := by
  refine Con.mk (Ls := #[.val (.ref a), .val (.int n)]) pn_com_example_routinier_routinier_Comparison_Operator (ef3_ri a n) ?_
  intro p e s m below meth c A hret hlk hnm
  have l_0 : (0 : Int32).toInt = 0 := by decide
  refine Goes.blk A _ b3_0_1 (pc' := 1) (Ls' := #[.val (.ref a), .val (.int n)]) (st' := [(.ref a)]) rfl ?_
  refine Goes.virtU A (hw _ (List.mem_of_getElem? (i := 16) rfl)) (hw _ (List.mem_of_getElem? (i := 17) rfl)) (hw _ (List.mem_of_getElem? (i := 18) rfl)) (hw _ (List.mem_of_getElem? (i := 20) rfl)) (hw _ (List.mem_of_getElem? (i := 19) rfl)) (hw _ (List.mem_of_getElem? (i := 21) rfl)) (hw _ (List.mem_of_getElem? (i := 22) rfl)) d3_1 pd_248321 (by decide) E (argsL := []) (rest := []) rfl rfl rfl (W := 0) (Nat.le_of_ble_eq_true rfl) (by decide) (by decide) (by decide) (by decide) (ko l Z n0 a0 hw h a (5 : Int32) F_o) (fun v hq hh => ?_)
  obtain ⟨rfl, rfl⟩ := hh
  show Goes p l e _ s m _ below meth c n0 _ h 0 0 4 #[.val (.ref a), .val (.int n)] [(.int (5 : Int32))]
  refine Goes.swIn A d3_4 (by decide) (o := 110) (by decide) (by decide) (pc' := 114) (by decide) ?_
  refine Goes.blk A _ b3_114_1 (pc' := 115) (Ls' := #[.val (.ref a), .val (.int n)]) (st' := [(.int n)]) rfl ?_
  refine Goes.if1 A d3_115 (by decide) (pc' := 122) (by decide) (fun hc1 => ?_) (fun hc => (by have q9 := cP_nint hc; simp only [cI] at q9; omega))
  refine Goes.blk A _ b3_122_1 (pc' := 123) (Ls' := #[.val (.ref a), .val (.int n)]) (st' := [(.int (0 : Int32))]) rfl ?_
  exact Goes.retB A hret (by simp) hlk d3_123 (z' := 0) (by decide) (by decide) (by decide) ⟨rfl, rfl⟩
set_option maxRecDepth 65536 in
set_option maxHeartbeats 40000000 in
theorem kh50 (l : Launch) (Z : State) (n0 : Nat) (a0 : Array Value) (hw : ∀ d ∈ tables_1, d.before a0 Z = true) (h : Heap) (a : Addr) (E : Exa Z h a "com/example/routinier/routinier/Comparison$Operator") (F_o : Fld Z h a "java/lang/Enum" "ordinal" "I" (.int (5 : Int32))) : Con l Z n0 (⟨"com/example/routinier/routinier/Comparison$Operator", "holds", "(I)Z"⟩ : MethodName) prog_28_method_5_code 2 (some .boolean) ({ frames := 1, cells := 0, slots := 0, locals := 12 } : Room) #[(.ref a), (.int (0 : Int32))] h (fun v h' => v = some (.int (1 : Int32)) ∧ h = h') := by
  refine Con.mk (Ls := #[.val (.ref a), .val (.int (0 : Int32))]) pn_com_example_routinier_routinier_Comparison_Operator (ef3_ri a (0 : Int32)) ?_
  intro p e s m below meth c A hret hlk hnm
  have l_0 : (0 : Int32).toInt = 0 := by decide
  refine Goes.blk A _ b3_0_1 (pc' := 1) (Ls' := #[.val (.ref a), .val (.int (0 : Int32))]) (st' := [(.ref a)]) rfl ?_
  refine Goes.virtU A (hw _ (List.mem_of_getElem? (i := 16) rfl)) (hw _ (List.mem_of_getElem? (i := 17) rfl)) (hw _ (List.mem_of_getElem? (i := 18) rfl)) (hw _ (List.mem_of_getElem? (i := 20) rfl)) (hw _ (List.mem_of_getElem? (i := 19) rfl)) (hw _ (List.mem_of_getElem? (i := 21) rfl)) (hw _ (List.mem_of_getElem? (i := 22) rfl)) d3_1 pd_248321 (by decide) E (argsL := []) (rest := []) rfl rfl rfl (W := 0) (Nat.le_of_ble_eq_true rfl) (by decide) (by decide) (by decide) (by decide) (ko l Z n0 a0 hw h a (5 : Int32) F_o) (fun v hq hh => ?_)
  obtain ⟨rfl, rfl⟩ := hh
  show Goes p l e _ s m _ below meth c n0 _ h 0 0 4 #[.val (.ref a), .val (.int (0 : Int32))] [(.int (5 : Int32))]
  refine Goes.swIn A d3_4 (by decide) (o := 110) (by decide) (by decide) (pc' := 114) (by decide) ?_
  refine Goes.blk A _ b3_114_1 (pc' := 115) (Ls' := #[.val (.ref a), .val (.int (0 : Int32))]) (st' := [(.int (0 : Int32))]) rfl ?_
  refine Goes.if1 A d3_115 (by decide) (pc' := 122) (by decide) (fun hc => absurd hc (cP_f (by decide))) (fun hc1 => ?_)
  refine Goes.blk A _ b3_118_1 (pc' := 119) (Ls' := #[.val (.ref a), .val (.int (0 : Int32))]) (st' := [(.int (1 : Int32))]) rfl ?_
  refine Goes.jump A d3_119 (by decide) (pc' := 123) (by decide) ?_
  exact Goes.retB A hret (by simp) hlk d3_123 (z' := 1) (by decide) (by decide) (by decide) ⟨rfl, rfl⟩
set_option maxRecDepth 65536 in
set_option maxHeartbeats 40000000 in
theorem kh5p (l : Launch) (Z : State) (n0 : Nat) (a0 : Array Value) (hw : ∀ d ∈ tables_1, d.before a0 Z = true) (h : Heap) (n : Int32) (hn : 0 < n.toInt) (a : Addr) (E : Exa Z h a "com/example/routinier/routinier/Comparison$Operator") (F_o : Fld Z h a "java/lang/Enum" "ordinal" "I" (.int (5 : Int32))) : Con l Z n0 (⟨"com/example/routinier/routinier/Comparison$Operator", "holds", "(I)Z"⟩ : MethodName) prog_28_method_5_code 2 (some .boolean) ({ frames := 1, cells := 0, slots := 0, locals := 12 } : Room) #[(.ref a), (.int n)] h (fun v h' => v = some (.int (1 : Int32)) ∧ h = h') := by
  refine Con.mk (Ls := #[.val (.ref a), .val (.int n)]) pn_com_example_routinier_routinier_Comparison_Operator (ef3_ri a n) ?_
  intro p e s m below meth c A hret hlk hnm
  have l_0 : (0 : Int32).toInt = 0 := by decide
  refine Goes.blk A _ b3_0_1 (pc' := 1) (Ls' := #[.val (.ref a), .val (.int n)]) (st' := [(.ref a)]) rfl ?_
  refine Goes.virtU A (hw _ (List.mem_of_getElem? (i := 16) rfl)) (hw _ (List.mem_of_getElem? (i := 17) rfl)) (hw _ (List.mem_of_getElem? (i := 18) rfl)) (hw _ (List.mem_of_getElem? (i := 20) rfl)) (hw _ (List.mem_of_getElem? (i := 19) rfl)) (hw _ (List.mem_of_getElem? (i := 21) rfl)) (hw _ (List.mem_of_getElem? (i := 22) rfl)) d3_1 pd_248321 (by decide) E (argsL := []) (rest := []) rfl rfl rfl (W := 0) (Nat.le_of_ble_eq_true rfl) (by decide) (by decide) (by decide) (by decide) (ko l Z n0 a0 hw h a (5 : Int32) F_o) (fun v hq hh => ?_)
  obtain ⟨rfl, rfl⟩ := hh
  show Goes p l e _ s m _ below meth c n0 _ h 0 0 4 #[.val (.ref a), .val (.int n)] [(.int (5 : Int32))]
  refine Goes.swIn A d3_4 (by decide) (o := 110) (by decide) (by decide) (pc' := 114) (by decide) ?_
  refine Goes.blk A _ b3_114_1 (pc' := 115) (Ls' := #[.val (.ref a), .val (.int n)]) (st' := [(.int n)]) rfl ?_
  refine Goes.if1 A d3_115 (by decide) (pc' := 122) (by decide) (fun hc => (by have q9 := cP_int hc; simp only [cI] at q9; omega)) (fun hc1 => ?_)
  refine Goes.blk A _ b3_118_1 (pc' := 119) (Ls' := #[.val (.ref a), .val (.int n)]) (st' := [(.int (1 : Int32))]) rfl ?_
  refine Goes.jump A d3_119 (by decide) (pc' := 123) (by decide) ?_
  exact Goes.retB A hret (by simp) hlk d3_123 (z' := 1) (by decide) (by decide) (by decide) ⟨rfl, rfl⟩
set_option maxRecDepth 65536 in
set_option maxHeartbeats 40000000 in
theorem k0_0m (l : Launch) (Z : State) (n0 : Nat) (a0 : Array Value) (hw : ∀ d ∈ tables_1, d.before a0 Z = true) (h : Heap) (p1 : Int32) (r1 : ((p1 &&& (2147483647 : Int32)) % (6 : Int32)) = (0 : Int32)) (n : Int32) (hn : n.toInt < 0) (a_EQUALS : Addr) (S_EQUALS : Sta Z h "com/example/routinier/routinier/Comparison$Operator" "EQUALS" "Lcom/example/routinier/routinier/Comparison$Operator;" (.ref a_EQUALS)) (E_EQUALS : Exa Z h a_EQUALS "com/example/routinier/routinier/Comparison$Operator") (F_EQUALS : Fld Z h a_EQUALS "java/lang/Enum" "ordinal" "I" (.int (0 : Int32))) (a_NOT_EQUALS : Addr) (S_NOT_EQUALS : Sta Z h "com/example/routinier/routinier/Comparison$Operator" "NOT_EQUALS" "Lcom/example/routinier/routinier/Comparison$Operator;" (.ref a_NOT_EQUALS)) (E_NOT_EQUALS : Exa Z h a_NOT_EQUALS "com/example/routinier/routinier/Comparison$Operator") (F_NOT_EQUALS : Fld Z h a_NOT_EQUALS "java/lang/Enum" "ordinal" "I" (.int (1 : Int32))) (a_LESS : Addr) (S_LESS : Sta Z h "com/example/routinier/routinier/Comparison$Operator" "LESS" "Lcom/example/routinier/routinier/Comparison$Operator;" (.ref a_LESS)) (E_LESS : Exa Z h a_LESS "com/example/routinier/routinier/Comparison$Operator") (F_LESS : Fld Z h a_LESS "java/lang/Enum" "ordinal" "I" (.int (2 : Int32))) (a_LESS_OR_EQUAL : Addr) (S_LESS_OR_EQUAL : Sta Z h "com/example/routinier/routinier/Comparison$Operator" "LESS_OR_EQUAL" "Lcom/example/routinier/routinier/Comparison$Operator;" (.ref a_LESS_OR_EQUAL)) (E_LESS_OR_EQUAL : Exa Z h a_LESS_OR_EQUAL "com/example/routinier/routinier/Comparison$Operator") (F_LESS_OR_EQUAL : Fld Z h a_LESS_OR_EQUAL "java/lang/Enum" "ordinal" "I" (.int (3 : Int32))) (a_GREATER : Addr) (S_GREATER : Sta Z h "com/example/routinier/routinier/Comparison$Operator" "GREATER" "Lcom/example/routinier/routinier/Comparison$Operator;" (.ref a_GREATER)) (E_GREATER : Exa Z h a_GREATER "com/example/routinier/routinier/Comparison$Operator") (F_GREATER : Fld Z h a_GREATER "java/lang/Enum" "ordinal" "I" (.int (4 : Int32))) (a_GREATER_OR_EQUAL : Addr) (S_GREATER_OR_EQUAL : Sta Z h "com/example/routinier/routinier/Comparison$Operator" "GREATER_OR_EQUAL" "Lcom/example/routinier/routinier/Comparison$Operator;" (.ref a_GREATER_OR_EQUAL)) (E_GREATER_OR_EQUAL : Exa Z h a_GREATER_OR_EQUAL "com/example/routinier/routinier/Comparison$Operator") (F_GREATER_OR_EQUAL : Fld Z h a_GREATER_OR_EQUAL "java/lang/Enum" "ordinal" "I" (.int (5 : Int32))) : Con l Z n0 x code maxLocals ret room_1 #[(.int p1), (.int n)] h (fun v _ => v = some (.int 1)) := by
  refine Con.mk (Ls := #[.val (.int p1), .val (.int n), .unset, .unset, .unset, .unset, .unset]) pn_com_example_routinier_routinier_OperatorHoldsPinLaw (ef0_ii p1 n) ?_
  intro p e s m below meth c A hret hlk hnm
  have l_0 : (0 : Int32).toInt = 0 := by decide
  refine Goes.blk A _ b0_0_1 (pc' := 1) (Ls' := #[.val (.int p1), .val (.int n), .unset, .unset, .unset, .unset, .unset]) (st' := [(.int p1)]) rfl ?_
  refine Goes.ldcI A (hw _ (List.mem_of_getElem? (i := 0) rfl)) at_1 ?_
  refine Goes.blk A _ b0_3_2 (pc' := 6) (Ls' := #[.val (.int p1), .val (.int n), .unset, .unset, .unset, .unset, .unset]) (st' := [(.int (6 : Int32)), (.int (p1 &&& (2147483647 : Int32)))]) rfl ?_
  refine Goes.irem A at_6 (by decide) ?_
  rw [r1]
  refine Goes.blk A _ b0_7_2 (pc' := 9) (Ls' := #[.val (.int p1), .val (.int n), .val (.int (0 : Int32)), .unset, .unset, .unset, .unset]) (st' := [(.int (0 : Int32))]) rfl ?_
  refine Goes.static A (hw _ (List.mem_of_getElem? (i := 1) rfl)) (hw _ (List.mem_of_getElem? (i := 2) rfl)) (hw _ (List.mem_of_getElem? (i := 3) rfl)) (hw _ (List.mem_of_getElem? (i := 4) rfl)) at_9 pd_867258 (by decide) (argsL := [(.int (0 : Int32))]) (rest := []) rfl rfl rfl (W := 0) (Nat.le_of_ble_eq_true rfl) (by decide) (by decide) (by decide) (by decide) (kp0 l Z n0 a0 hw h a_EQUALS S_EQUALS) (fun v hq hh => ?_)
  obtain ⟨rfl, rfl⟩ := hh
  show Goes p l e _ s m _ below meth c n0 _ h 0 0 12 #[.val (.int p1), .val (.int n), .val (.int (0 : Int32)), .unset, .unset, .unset, .unset] [(.ref a_EQUALS)]
  refine Goes.blk A _ b0_12_2 (pc' := 14) (Ls' := #[.val (.int p1), .val (.int n), .val (.int (0 : Int32)), .val (.ref a_EQUALS), .unset, .unset, .unset]) (st' := [(.int (0 : Int32))]) rfl ?_
  refine Goes.static A (hw _ (List.mem_of_getElem? (i := 8) rfl)) (hw _ (List.mem_of_getElem? (i := 9) rfl)) (hw _ (List.mem_of_getElem? (i := 3) rfl)) (hw _ (List.mem_of_getElem? (i := 10) rfl)) at_14 pd_727763 (by decide) (argsL := [(.int (0 : Int32))]) (rest := []) rfl rfl rfl (W := 0) (Nat.le_of_ble_eq_true rfl) (by decide) (by decide) (by decide) (by decide) (km0 l Z n0 a0 hw h) (fun v hq hh => ?_)
  obtain ⟨rfl, rfl⟩ := hh
  show Goes p l e _ s m _ below meth c n0 _ h 0 0 17 #[.val (.int p1), .val (.int n), .val (.int (0 : Int32)), .val (.ref a_EQUALS), .unset, .unset, .unset] [(.int (2 : Int32))]
  refine Goes.blk A _ b0_17_2 (pc' := 20) (Ls' := #[.val (.int p1), .val (.int n), .val (.int (0 : Int32)), .val (.ref a_EQUALS), .val (.int (2 : Int32)), .unset, .unset]) (st' := [(.int n)]) rfl ?_
  refine Goes.if1 A at_20 (by decide) (pc' := 27) (by decide) (fun hc => (by have q9 := cP_int hc; simp only [cI] at q9; omega)) (fun hc1 => ?_)
  refine Goes.blk A _ b0_23_1 (pc' := 24) (Ls' := #[.val (.int p1), .val (.int n), .val (.int (0 : Int32)), .val (.ref a_EQUALS), .val (.int (2 : Int32)), .unset, .unset]) (st' := [(.int (0 : Int32))]) rfl ?_
  refine Goes.jump A at_24 (by decide) (pc' := 36) (by decide) ?_
  refine Goes.blk A _ b0_36_6 (pc' := 45) (Ls' := #[.val (.int p1), .val (.int n), .val (.int (0 : Int32)), .val (.ref a_EQUALS), .val (.int (2 : Int32)), .val (.int (0 : Int32)), .unset]) (st' := [(.int (((2 : Int32) >>> ((0 : Int32) &&& 31)) &&& (1 : Int32)))]) rfl ?_
  refine Goes.if1 A at_45 (by decide) (pc' := 52) (by decide) (fun hc2 => ?_) (fun hc => absurd (cP_t (by decide)) hc)
  refine Goes.blk A _ b0_52_4 (pc' := 57) (Ls' := #[.val (.int p1), .val (.int n), .val (.int (0 : Int32)), .val (.ref a_EQUALS), .val (.int (2 : Int32)), .val (.int (0 : Int32)), .val (.int (0 : Int32))]) (st' := [(.int n), (.ref a_EQUALS)]) rfl ?_
  refine Goes.virt A (hw _ (List.mem_of_getElem? (i := 11) rfl)) (hw _ (List.mem_of_getElem? (i := 12) rfl)) (hw _ (List.mem_of_getElem? (i := 14) rfl)) (hw _ (List.mem_of_getElem? (i := 14) rfl)) (hw _ (List.mem_of_getElem? (i := 13) rfl)) (hw _ (List.mem_of_getElem? (i := 6) rfl)) (hw _ (List.mem_of_getElem? (i := 15) rfl)) at_57 pd_727780 (by decide) E_EQUALS (argsL := [(.int n)]) (rest := []) rfl rfl rfl (W := 0) (Nat.le_of_ble_eq_true rfl) (by decide) (by decide) (by decide) (by decide) (kh0m l Z n0 a0 hw h n hn a_EQUALS E_EQUALS F_EQUALS) (fun v hq hh => ?_)
  obtain ⟨rfl, rfl⟩ := hh
  show Goes p l e _ s m _ below meth c n0 _ h 0 0 60 #[.val (.int p1), .val (.int n), .val (.int (0 : Int32)), .val (.ref a_EQUALS), .val (.int (2 : Int32)), .val (.int (0 : Int32)), .val (.int (0 : Int32))] [(.int (0 : Int32))]
  refine Goes.blk A _ b0_60_1 (pc' := 62) (Ls' := #[.val (.int p1), .val (.int n), .val (.int (0 : Int32)), .val (.ref a_EQUALS), .val (.int (2 : Int32)), .val (.int (0 : Int32)), .val (.int (0 : Int32))]) (st' := [(.int (0 : Int32)), (.int (0 : Int32))]) rfl ?_
  refine Goes.if2 A at_62 (by decide) (pc' := 69) (by decide) (fun hc => absurd hc (cP_f (by decide))) (fun hc3 => ?_)
  refine Goes.blk A _ b0_65_1 (pc' := 66) (Ls' := #[.val (.int p1), .val (.int n), .val (.int (0 : Int32)), .val (.ref a_EQUALS), .val (.int (2 : Int32)), .val (.int (0 : Int32)), .val (.int (0 : Int32))]) (st' := [(.int (1 : Int32))]) rfl ?_
  refine Goes.jump A at_66 (by decide) (pc' := 70) (by decide) ?_
  exact Goes.retB A hret (by simp) hlk at_70 (z' := 1) (by decide) (by decide) (by decide) rfl
set_option maxRecDepth 65536 in
set_option maxHeartbeats 40000000 in
theorem k0_00 (l : Launch) (Z : State) (n0 : Nat) (a0 : Array Value) (hw : ∀ d ∈ tables_1, d.before a0 Z = true) (h : Heap) (p1 : Int32) (r1 : ((p1 &&& (2147483647 : Int32)) % (6 : Int32)) = (0 : Int32)) (a_EQUALS : Addr) (S_EQUALS : Sta Z h "com/example/routinier/routinier/Comparison$Operator" "EQUALS" "Lcom/example/routinier/routinier/Comparison$Operator;" (.ref a_EQUALS)) (E_EQUALS : Exa Z h a_EQUALS "com/example/routinier/routinier/Comparison$Operator") (F_EQUALS : Fld Z h a_EQUALS "java/lang/Enum" "ordinal" "I" (.int (0 : Int32))) (a_NOT_EQUALS : Addr) (S_NOT_EQUALS : Sta Z h "com/example/routinier/routinier/Comparison$Operator" "NOT_EQUALS" "Lcom/example/routinier/routinier/Comparison$Operator;" (.ref a_NOT_EQUALS)) (E_NOT_EQUALS : Exa Z h a_NOT_EQUALS "com/example/routinier/routinier/Comparison$Operator") (F_NOT_EQUALS : Fld Z h a_NOT_EQUALS "java/lang/Enum" "ordinal" "I" (.int (1 : Int32))) (a_LESS : Addr) (S_LESS : Sta Z h "com/example/routinier/routinier/Comparison$Operator" "LESS" "Lcom/example/routinier/routinier/Comparison$Operator;" (.ref a_LESS)) (E_LESS : Exa Z h a_LESS "com/example/routinier/routinier/Comparison$Operator") (F_LESS : Fld Z h a_LESS "java/lang/Enum" "ordinal" "I" (.int (2 : Int32))) (a_LESS_OR_EQUAL : Addr) (S_LESS_OR_EQUAL : Sta Z h "com/example/routinier/routinier/Comparison$Operator" "LESS_OR_EQUAL" "Lcom/example/routinier/routinier/Comparison$Operator;" (.ref a_LESS_OR_EQUAL)) (E_LESS_OR_EQUAL : Exa Z h a_LESS_OR_EQUAL "com/example/routinier/routinier/Comparison$Operator") (F_LESS_OR_EQUAL : Fld Z h a_LESS_OR_EQUAL "java/lang/Enum" "ordinal" "I" (.int (3 : Int32))) (a_GREATER : Addr) (S_GREATER : Sta Z h "com/example/routinier/routinier/Comparison$Operator" "GREATER" "Lcom/example/routinier/routinier/Comparison$Operator;" (.ref a_GREATER)) (E_GREATER : Exa Z h a_GREATER "com/example/routinier/routinier/Comparison$Operator") (F_GREATER : Fld Z h a_GREATER "java/lang/Enum" "ordinal" "I" (.int (4 : Int32))) (a_GREATER_OR_EQUAL : Addr) (S_GREATER_OR_EQUAL : Sta Z h "com/example/routinier/routinier/Comparison$Operator" "GREATER_OR_EQUAL" "Lcom/example/routinier/routinier/Comparison$Operator;" (.ref a_GREATER_OR_EQUAL)) (E_GREATER_OR_EQUAL : Exa Z h a_GREATER_OR_EQUAL "com/example/routinier/routinier/Comparison$Operator") (F_GREATER_OR_EQUAL : Fld Z h a_GREATER_OR_EQUAL "java/lang/Enum" "ordinal" "I" (.int (5 : Int32))) : Con l Z n0 x code maxLocals ret room_1 #[(.int p1), (.int (0 : Int32))] h (fun v _ => v = some (.int 1)) := by
  refine Con.mk (Ls := #[.val (.int p1), .val (.int (0 : Int32)), .unset, .unset, .unset, .unset, .unset]) pn_com_example_routinier_routinier_OperatorHoldsPinLaw (ef0_ii p1 (0 : Int32)) ?_
  intro p e s m below meth c A hret hlk hnm
  have l_0 : (0 : Int32).toInt = 0 := by decide
  refine Goes.blk A _ b0_0_1 (pc' := 1) (Ls' := #[.val (.int p1), .val (.int (0 : Int32)), .unset, .unset, .unset, .unset, .unset]) (st' := [(.int p1)]) rfl ?_
  refine Goes.ldcI A (hw _ (List.mem_of_getElem? (i := 0) rfl)) at_1 ?_
  refine Goes.blk A _ b0_3_2 (pc' := 6) (Ls' := #[.val (.int p1), .val (.int (0 : Int32)), .unset, .unset, .unset, .unset, .unset]) (st' := [(.int (6 : Int32)), (.int (p1 &&& (2147483647 : Int32)))]) rfl ?_
  refine Goes.irem A at_6 (by decide) ?_
  rw [r1]
  refine Goes.blk A _ b0_7_2 (pc' := 9) (Ls' := #[.val (.int p1), .val (.int (0 : Int32)), .val (.int (0 : Int32)), .unset, .unset, .unset, .unset]) (st' := [(.int (0 : Int32))]) rfl ?_
  refine Goes.static A (hw _ (List.mem_of_getElem? (i := 1) rfl)) (hw _ (List.mem_of_getElem? (i := 2) rfl)) (hw _ (List.mem_of_getElem? (i := 3) rfl)) (hw _ (List.mem_of_getElem? (i := 4) rfl)) at_9 pd_867258 (by decide) (argsL := [(.int (0 : Int32))]) (rest := []) rfl rfl rfl (W := 0) (Nat.le_of_ble_eq_true rfl) (by decide) (by decide) (by decide) (by decide) (kp0 l Z n0 a0 hw h a_EQUALS S_EQUALS) (fun v hq hh => ?_)
  obtain ⟨rfl, rfl⟩ := hh
  show Goes p l e _ s m _ below meth c n0 _ h 0 0 12 #[.val (.int p1), .val (.int (0 : Int32)), .val (.int (0 : Int32)), .unset, .unset, .unset, .unset] [(.ref a_EQUALS)]
  refine Goes.blk A _ b0_12_2 (pc' := 14) (Ls' := #[.val (.int p1), .val (.int (0 : Int32)), .val (.int (0 : Int32)), .val (.ref a_EQUALS), .unset, .unset, .unset]) (st' := [(.int (0 : Int32))]) rfl ?_
  refine Goes.static A (hw _ (List.mem_of_getElem? (i := 8) rfl)) (hw _ (List.mem_of_getElem? (i := 9) rfl)) (hw _ (List.mem_of_getElem? (i := 3) rfl)) (hw _ (List.mem_of_getElem? (i := 10) rfl)) at_14 pd_727763 (by decide) (argsL := [(.int (0 : Int32))]) (rest := []) rfl rfl rfl (W := 0) (Nat.le_of_ble_eq_true rfl) (by decide) (by decide) (by decide) (by decide) (km0 l Z n0 a0 hw h) (fun v hq hh => ?_)
  obtain ⟨rfl, rfl⟩ := hh
  show Goes p l e _ s m _ below meth c n0 _ h 0 0 17 #[.val (.int p1), .val (.int (0 : Int32)), .val (.int (0 : Int32)), .val (.ref a_EQUALS), .unset, .unset, .unset] [(.int (2 : Int32))]
  refine Goes.blk A _ b0_17_2 (pc' := 20) (Ls' := #[.val (.int p1), .val (.int (0 : Int32)), .val (.int (0 : Int32)), .val (.ref a_EQUALS), .val (.int (2 : Int32)), .unset, .unset]) (st' := [(.int (0 : Int32))]) rfl ?_
  refine Goes.if1 A at_20 (by decide) (pc' := 27) (by decide) (fun hc1 => ?_) (fun hc => absurd (cP_t (by decide)) hc)
  refine Goes.blk A _ b0_27_1 (pc' := 28) (Ls' := #[.val (.int p1), .val (.int (0 : Int32)), .val (.int (0 : Int32)), .val (.ref a_EQUALS), .val (.int (2 : Int32)), .unset, .unset]) (st' := [(.int (0 : Int32))]) rfl ?_
  refine Goes.if1 A at_28 (by decide) (pc' := 35) (by decide) (fun hc => absurd hc (cP_f (by decide))) (fun hc2 => ?_)
  refine Goes.blk A _ b0_31_1 (pc' := 32) (Ls' := #[.val (.int p1), .val (.int (0 : Int32)), .val (.int (0 : Int32)), .val (.ref a_EQUALS), .val (.int (2 : Int32)), .unset, .unset]) (st' := [(.int (1 : Int32))]) rfl ?_
  refine Goes.jump A at_32 (by decide) (pc' := 36) (by decide) ?_
  refine Goes.blk A _ b0_36_6 (pc' := 45) (Ls' := #[.val (.int p1), .val (.int (0 : Int32)), .val (.int (0 : Int32)), .val (.ref a_EQUALS), .val (.int (2 : Int32)), .val (.int (1 : Int32)), .unset]) (st' := [(.int (((2 : Int32) >>> ((1 : Int32) &&& 31)) &&& (1 : Int32)))]) rfl ?_
  refine Goes.if1 A at_45 (by decide) (pc' := 52) (by decide) (fun hc => absurd hc (cP_f (by decide))) (fun hc3 => ?_)
  refine Goes.blk A _ b0_48_1 (pc' := 49) (Ls' := #[.val (.int p1), .val (.int (0 : Int32)), .val (.int (0 : Int32)), .val (.ref a_EQUALS), .val (.int (2 : Int32)), .val (.int (1 : Int32)), .unset]) (st' := [(.int (1 : Int32))]) rfl ?_
  refine Goes.jump A at_49 (by decide) (pc' := 53) (by decide) ?_
  refine Goes.blk A _ b0_53_3 (pc' := 57) (Ls' := #[.val (.int p1), .val (.int (0 : Int32)), .val (.int (0 : Int32)), .val (.ref a_EQUALS), .val (.int (2 : Int32)), .val (.int (1 : Int32)), .val (.int (1 : Int32))]) (st' := [(.int (0 : Int32)), (.ref a_EQUALS)]) rfl ?_
  refine Goes.virt A (hw _ (List.mem_of_getElem? (i := 11) rfl)) (hw _ (List.mem_of_getElem? (i := 12) rfl)) (hw _ (List.mem_of_getElem? (i := 14) rfl)) (hw _ (List.mem_of_getElem? (i := 14) rfl)) (hw _ (List.mem_of_getElem? (i := 13) rfl)) (hw _ (List.mem_of_getElem? (i := 6) rfl)) (hw _ (List.mem_of_getElem? (i := 15) rfl)) at_57 pd_727780 (by decide) E_EQUALS (argsL := [(.int (0 : Int32))]) (rest := []) rfl rfl rfl (W := 0) (Nat.le_of_ble_eq_true rfl) (by decide) (by decide) (by decide) (by decide) (kh00 l Z n0 a0 hw h a_EQUALS E_EQUALS F_EQUALS) (fun v hq hh => ?_)
  obtain ⟨rfl, rfl⟩ := hh
  show Goes p l e _ s m _ below meth c n0 _ h 0 0 60 #[.val (.int p1), .val (.int (0 : Int32)), .val (.int (0 : Int32)), .val (.ref a_EQUALS), .val (.int (2 : Int32)), .val (.int (1 : Int32)), .val (.int (1 : Int32))] [(.int (1 : Int32))]
  refine Goes.blk A _ b0_60_1 (pc' := 62) (Ls' := #[.val (.int p1), .val (.int (0 : Int32)), .val (.int (0 : Int32)), .val (.ref a_EQUALS), .val (.int (2 : Int32)), .val (.int (1 : Int32)), .val (.int (1 : Int32))]) (st' := [(.int (1 : Int32)), (.int (1 : Int32))]) rfl ?_
  refine Goes.if2 A at_62 (by decide) (pc' := 69) (by decide) (fun hc => absurd hc (cP_f (by decide))) (fun hc4 => ?_)
  refine Goes.blk A _ b0_65_1 (pc' := 66) (Ls' := #[.val (.int p1), .val (.int (0 : Int32)), .val (.int (0 : Int32)), .val (.ref a_EQUALS), .val (.int (2 : Int32)), .val (.int (1 : Int32)), .val (.int (1 : Int32))]) (st' := [(.int (1 : Int32))]) rfl ?_
  refine Goes.jump A at_66 (by decide) (pc' := 70) (by decide) ?_
  exact Goes.retB A hret (by simp) hlk at_70 (z' := 1) (by decide) (by decide) (by decide) rfl
set_option maxRecDepth 65536 in
set_option maxHeartbeats 40000000 in
theorem k0_0p (l : Launch) (Z : State) (n0 : Nat) (a0 : Array Value) (hw : ∀ d ∈ tables_1, d.before a0 Z = true) (h : Heap) (p1 : Int32) (r1 : ((p1 &&& (2147483647 : Int32)) % (6 : Int32)) = (0 : Int32)) (n : Int32) (hn : 0 < n.toInt) (a_EQUALS : Addr) (S_EQUALS : Sta Z h "com/example/routinier/routinier/Comparison$Operator" "EQUALS" "Lcom/example/routinier/routinier/Comparison$Operator;" (.ref a_EQUALS)) (E_EQUALS : Exa Z h a_EQUALS "com/example/routinier/routinier/Comparison$Operator") (F_EQUALS : Fld Z h a_EQUALS "java/lang/Enum" "ordinal" "I" (.int (0 : Int32))) (a_NOT_EQUALS : Addr) (S_NOT_EQUALS : Sta Z h "com/example/routinier/routinier/Comparison$Operator" "NOT_EQUALS" "Lcom/example/routinier/routinier/Comparison$Operator;" (.ref a_NOT_EQUALS)) (E_NOT_EQUALS : Exa Z h a_NOT_EQUALS "com/example/routinier/routinier/Comparison$Operator") (F_NOT_EQUALS : Fld Z h a_NOT_EQUALS "java/lang/Enum" "ordinal" "I" (.int (1 : Int32))) (a_LESS : Addr) (S_LESS : Sta Z h "com/example/routinier/routinier/Comparison$Operator" "LESS" "Lcom/example/routinier/routinier/Comparison$Operator;" (.ref a_LESS)) (E_LESS : Exa Z h a_LESS "com/example/routinier/routinier/Comparison$Operator") (F_LESS : Fld Z h a_LESS "java/lang/Enum" "ordinal" "I" (.int (2 : Int32))) (a_LESS_OR_EQUAL : Addr) (S_LESS_OR_EQUAL : Sta Z h "com/example/routinier/routinier/Comparison$Operator" "LESS_OR_EQUAL" "Lcom/example/routinier/routinier/Comparison$Operator;" (.ref a_LESS_OR_EQUAL)) (E_LESS_OR_EQUAL : Exa Z h a_LESS_OR_EQUAL "com/example/routinier/routinier/Comparison$Operator") (F_LESS_OR_EQUAL : Fld Z h a_LESS_OR_EQUAL "java/lang/Enum" "ordinal" "I" (.int (3 : Int32))) (a_GREATER : Addr) (S_GREATER : Sta Z h "com/example/routinier/routinier/Comparison$Operator" "GREATER" "Lcom/example/routinier/routinier/Comparison$Operator;" (.ref a_GREATER)) (E_GREATER : Exa Z h a_GREATER "com/example/routinier/routinier/Comparison$Operator") (F_GREATER : Fld Z h a_GREATER "java/lang/Enum" "ordinal" "I" (.int (4 : Int32))) (a_GREATER_OR_EQUAL : Addr) (S_GREATER_OR_EQUAL : Sta Z h "com/example/routinier/routinier/Comparison$Operator" "GREATER_OR_EQUAL" "Lcom/example/routinier/routinier/Comparison$Operator;" (.ref a_GREATER_OR_EQUAL)) (E_GREATER_OR_EQUAL : Exa Z h a_GREATER_OR_EQUAL "com/example/routinier/routinier/Comparison$Operator") (F_GREATER_OR_EQUAL : Fld Z h a_GREATER_OR_EQUAL "java/lang/Enum" "ordinal" "I" (.int (5 : Int32))) : Con l Z n0 x code maxLocals ret room_1 #[(.int p1), (.int n)] h (fun v _ => v = some (.int 1)) := by
  refine Con.mk (Ls := #[.val (.int p1), .val (.int n), .unset, .unset, .unset, .unset, .unset]) pn_com_example_routinier_routinier_OperatorHoldsPinLaw (ef0_ii p1 n) ?_
  intro p e s m below meth c A hret hlk hnm
  have l_0 : (0 : Int32).toInt = 0 := by decide
  refine Goes.blk A _ b0_0_1 (pc' := 1) (Ls' := #[.val (.int p1), .val (.int n), .unset, .unset, .unset, .unset, .unset]) (st' := [(.int p1)]) rfl ?_
  refine Goes.ldcI A (hw _ (List.mem_of_getElem? (i := 0) rfl)) at_1 ?_
  refine Goes.blk A _ b0_3_2 (pc' := 6) (Ls' := #[.val (.int p1), .val (.int n), .unset, .unset, .unset, .unset, .unset]) (st' := [(.int (6 : Int32)), (.int (p1 &&& (2147483647 : Int32)))]) rfl ?_
  refine Goes.irem A at_6 (by decide) ?_
  rw [r1]
  refine Goes.blk A _ b0_7_2 (pc' := 9) (Ls' := #[.val (.int p1), .val (.int n), .val (.int (0 : Int32)), .unset, .unset, .unset, .unset]) (st' := [(.int (0 : Int32))]) rfl ?_
  refine Goes.static A (hw _ (List.mem_of_getElem? (i := 1) rfl)) (hw _ (List.mem_of_getElem? (i := 2) rfl)) (hw _ (List.mem_of_getElem? (i := 3) rfl)) (hw _ (List.mem_of_getElem? (i := 4) rfl)) at_9 pd_867258 (by decide) (argsL := [(.int (0 : Int32))]) (rest := []) rfl rfl rfl (W := 0) (Nat.le_of_ble_eq_true rfl) (by decide) (by decide) (by decide) (by decide) (kp0 l Z n0 a0 hw h a_EQUALS S_EQUALS) (fun v hq hh => ?_)
  obtain ⟨rfl, rfl⟩ := hh
  show Goes p l e _ s m _ below meth c n0 _ h 0 0 12 #[.val (.int p1), .val (.int n), .val (.int (0 : Int32)), .unset, .unset, .unset, .unset] [(.ref a_EQUALS)]
  refine Goes.blk A _ b0_12_2 (pc' := 14) (Ls' := #[.val (.int p1), .val (.int n), .val (.int (0 : Int32)), .val (.ref a_EQUALS), .unset, .unset, .unset]) (st' := [(.int (0 : Int32))]) rfl ?_
  refine Goes.static A (hw _ (List.mem_of_getElem? (i := 8) rfl)) (hw _ (List.mem_of_getElem? (i := 9) rfl)) (hw _ (List.mem_of_getElem? (i := 3) rfl)) (hw _ (List.mem_of_getElem? (i := 10) rfl)) at_14 pd_727763 (by decide) (argsL := [(.int (0 : Int32))]) (rest := []) rfl rfl rfl (W := 0) (Nat.le_of_ble_eq_true rfl) (by decide) (by decide) (by decide) (by decide) (km0 l Z n0 a0 hw h) (fun v hq hh => ?_)
  obtain ⟨rfl, rfl⟩ := hh
  show Goes p l e _ s m _ below meth c n0 _ h 0 0 17 #[.val (.int p1), .val (.int n), .val (.int (0 : Int32)), .val (.ref a_EQUALS), .unset, .unset, .unset] [(.int (2 : Int32))]
  refine Goes.blk A _ b0_17_2 (pc' := 20) (Ls' := #[.val (.int p1), .val (.int n), .val (.int (0 : Int32)), .val (.ref a_EQUALS), .val (.int (2 : Int32)), .unset, .unset]) (st' := [(.int n)]) rfl ?_
  refine Goes.if1 A at_20 (by decide) (pc' := 27) (by decide) (fun hc1 => ?_) (fun hc => (by have q9 := cP_nint hc; simp only [cI] at q9; omega))
  refine Goes.blk A _ b0_27_1 (pc' := 28) (Ls' := #[.val (.int p1), .val (.int n), .val (.int (0 : Int32)), .val (.ref a_EQUALS), .val (.int (2 : Int32)), .unset, .unset]) (st' := [(.int n)]) rfl ?_
  refine Goes.if1 A at_28 (by decide) (pc' := 35) (by decide) (fun hc2 => ?_) (fun hc => (by have q9 := cP_nint hc; simp only [cI] at q9; omega))
  refine Goes.blk A _ b0_35_7 (pc' := 45) (Ls' := #[.val (.int p1), .val (.int n), .val (.int (0 : Int32)), .val (.ref a_EQUALS), .val (.int (2 : Int32)), .val (.int (2 : Int32)), .unset]) (st' := [(.int (((2 : Int32) >>> ((2 : Int32) &&& 31)) &&& (1 : Int32)))]) rfl ?_
  refine Goes.if1 A at_45 (by decide) (pc' := 52) (by decide) (fun hc3 => ?_) (fun hc => absurd (cP_t (by decide)) hc)
  refine Goes.blk A _ b0_52_4 (pc' := 57) (Ls' := #[.val (.int p1), .val (.int n), .val (.int (0 : Int32)), .val (.ref a_EQUALS), .val (.int (2 : Int32)), .val (.int (2 : Int32)), .val (.int (0 : Int32))]) (st' := [(.int n), (.ref a_EQUALS)]) rfl ?_
  refine Goes.virt A (hw _ (List.mem_of_getElem? (i := 11) rfl)) (hw _ (List.mem_of_getElem? (i := 12) rfl)) (hw _ (List.mem_of_getElem? (i := 14) rfl)) (hw _ (List.mem_of_getElem? (i := 14) rfl)) (hw _ (List.mem_of_getElem? (i := 13) rfl)) (hw _ (List.mem_of_getElem? (i := 6) rfl)) (hw _ (List.mem_of_getElem? (i := 15) rfl)) at_57 pd_727780 (by decide) E_EQUALS (argsL := [(.int n)]) (rest := []) rfl rfl rfl (W := 0) (Nat.le_of_ble_eq_true rfl) (by decide) (by decide) (by decide) (by decide) (kh0p l Z n0 a0 hw h n hn a_EQUALS E_EQUALS F_EQUALS) (fun v hq hh => ?_)
  obtain ⟨rfl, rfl⟩ := hh
  show Goes p l e _ s m _ below meth c n0 _ h 0 0 60 #[.val (.int p1), .val (.int n), .val (.int (0 : Int32)), .val (.ref a_EQUALS), .val (.int (2 : Int32)), .val (.int (2 : Int32)), .val (.int (0 : Int32))] [(.int (0 : Int32))]
  refine Goes.blk A _ b0_60_1 (pc' := 62) (Ls' := #[.val (.int p1), .val (.int n), .val (.int (0 : Int32)), .val (.ref a_EQUALS), .val (.int (2 : Int32)), .val (.int (2 : Int32)), .val (.int (0 : Int32))]) (st' := [(.int (0 : Int32)), (.int (0 : Int32))]) rfl ?_
  refine Goes.if2 A at_62 (by decide) (pc' := 69) (by decide) (fun hc => absurd hc (cP_f (by decide))) (fun hc4 => ?_)
  refine Goes.blk A _ b0_65_1 (pc' := 66) (Ls' := #[.val (.int p1), .val (.int n), .val (.int (0 : Int32)), .val (.ref a_EQUALS), .val (.int (2 : Int32)), .val (.int (2 : Int32)), .val (.int (0 : Int32))]) (st' := [(.int (1 : Int32))]) rfl ?_
  refine Goes.jump A at_66 (by decide) (pc' := 70) (by decide) ?_
  exact Goes.retB A hret (by simp) hlk at_70 (z' := 1) (by decide) (by decide) (by decide) rfl
set_option maxRecDepth 65536 in
set_option maxHeartbeats 40000000 in
theorem k0_1m (l : Launch) (Z : State) (n0 : Nat) (a0 : Array Value) (hw : ∀ d ∈ tables_1, d.before a0 Z = true) (h : Heap) (p1 : Int32) (r1 : ((p1 &&& (2147483647 : Int32)) % (6 : Int32)) = (1 : Int32)) (n : Int32) (hn : n.toInt < 0) (a_EQUALS : Addr) (S_EQUALS : Sta Z h "com/example/routinier/routinier/Comparison$Operator" "EQUALS" "Lcom/example/routinier/routinier/Comparison$Operator;" (.ref a_EQUALS)) (E_EQUALS : Exa Z h a_EQUALS "com/example/routinier/routinier/Comparison$Operator") (F_EQUALS : Fld Z h a_EQUALS "java/lang/Enum" "ordinal" "I" (.int (0 : Int32))) (a_NOT_EQUALS : Addr) (S_NOT_EQUALS : Sta Z h "com/example/routinier/routinier/Comparison$Operator" "NOT_EQUALS" "Lcom/example/routinier/routinier/Comparison$Operator;" (.ref a_NOT_EQUALS)) (E_NOT_EQUALS : Exa Z h a_NOT_EQUALS "com/example/routinier/routinier/Comparison$Operator") (F_NOT_EQUALS : Fld Z h a_NOT_EQUALS "java/lang/Enum" "ordinal" "I" (.int (1 : Int32))) (a_LESS : Addr) (S_LESS : Sta Z h "com/example/routinier/routinier/Comparison$Operator" "LESS" "Lcom/example/routinier/routinier/Comparison$Operator;" (.ref a_LESS)) (E_LESS : Exa Z h a_LESS "com/example/routinier/routinier/Comparison$Operator") (F_LESS : Fld Z h a_LESS "java/lang/Enum" "ordinal" "I" (.int (2 : Int32))) (a_LESS_OR_EQUAL : Addr) (S_LESS_OR_EQUAL : Sta Z h "com/example/routinier/routinier/Comparison$Operator" "LESS_OR_EQUAL" "Lcom/example/routinier/routinier/Comparison$Operator;" (.ref a_LESS_OR_EQUAL)) (E_LESS_OR_EQUAL : Exa Z h a_LESS_OR_EQUAL "com/example/routinier/routinier/Comparison$Operator") (F_LESS_OR_EQUAL : Fld Z h a_LESS_OR_EQUAL "java/lang/Enum" "ordinal" "I" (.int (3 : Int32))) (a_GREATER : Addr) (S_GREATER : Sta Z h "com/example/routinier/routinier/Comparison$Operator" "GREATER" "Lcom/example/routinier/routinier/Comparison$Operator;" (.ref a_GREATER)) (E_GREATER : Exa Z h a_GREATER "com/example/routinier/routinier/Comparison$Operator") (F_GREATER : Fld Z h a_GREATER "java/lang/Enum" "ordinal" "I" (.int (4 : Int32))) (a_GREATER_OR_EQUAL : Addr) (S_GREATER_OR_EQUAL : Sta Z h "com/example/routinier/routinier/Comparison$Operator" "GREATER_OR_EQUAL" "Lcom/example/routinier/routinier/Comparison$Operator;" (.ref a_GREATER_OR_EQUAL)) (E_GREATER_OR_EQUAL : Exa Z h a_GREATER_OR_EQUAL "com/example/routinier/routinier/Comparison$Operator") (F_GREATER_OR_EQUAL : Fld Z h a_GREATER_OR_EQUAL "java/lang/Enum" "ordinal" "I" (.int (5 : Int32))) : Con l Z n0 x code maxLocals ret room_1 #[(.int p1), (.int n)] h (fun v _ => v = some (.int 1)) := by
  refine Con.mk (Ls := #[.val (.int p1), .val (.int n), .unset, .unset, .unset, .unset, .unset]) pn_com_example_routinier_routinier_OperatorHoldsPinLaw (ef0_ii p1 n) ?_
  intro p e s m below meth c A hret hlk hnm
  have l_0 : (0 : Int32).toInt = 0 := by decide
  refine Goes.blk A _ b0_0_1 (pc' := 1) (Ls' := #[.val (.int p1), .val (.int n), .unset, .unset, .unset, .unset, .unset]) (st' := [(.int p1)]) rfl ?_
  refine Goes.ldcI A (hw _ (List.mem_of_getElem? (i := 0) rfl)) at_1 ?_
  refine Goes.blk A _ b0_3_2 (pc' := 6) (Ls' := #[.val (.int p1), .val (.int n), .unset, .unset, .unset, .unset, .unset]) (st' := [(.int (6 : Int32)), (.int (p1 &&& (2147483647 : Int32)))]) rfl ?_
  refine Goes.irem A at_6 (by decide) ?_
  rw [r1]
  refine Goes.blk A _ b0_7_2 (pc' := 9) (Ls' := #[.val (.int p1), .val (.int n), .val (.int (1 : Int32)), .unset, .unset, .unset, .unset]) (st' := [(.int (1 : Int32))]) rfl ?_
  refine Goes.static A (hw _ (List.mem_of_getElem? (i := 1) rfl)) (hw _ (List.mem_of_getElem? (i := 2) rfl)) (hw _ (List.mem_of_getElem? (i := 3) rfl)) (hw _ (List.mem_of_getElem? (i := 4) rfl)) at_9 pd_867258 (by decide) (argsL := [(.int (1 : Int32))]) (rest := []) rfl rfl rfl (W := 0) (Nat.le_of_ble_eq_true rfl) (by decide) (by decide) (by decide) (by decide) (kp1 l Z n0 a0 hw h a_NOT_EQUALS S_NOT_EQUALS) (fun v hq hh => ?_)
  obtain ⟨rfl, rfl⟩ := hh
  show Goes p l e _ s m _ below meth c n0 _ h 0 0 12 #[.val (.int p1), .val (.int n), .val (.int (1 : Int32)), .unset, .unset, .unset, .unset] [(.ref a_NOT_EQUALS)]
  refine Goes.blk A _ b0_12_2 (pc' := 14) (Ls' := #[.val (.int p1), .val (.int n), .val (.int (1 : Int32)), .val (.ref a_NOT_EQUALS), .unset, .unset, .unset]) (st' := [(.int (1 : Int32))]) rfl ?_
  refine Goes.static A (hw _ (List.mem_of_getElem? (i := 8) rfl)) (hw _ (List.mem_of_getElem? (i := 9) rfl)) (hw _ (List.mem_of_getElem? (i := 3) rfl)) (hw _ (List.mem_of_getElem? (i := 10) rfl)) at_14 pd_727763 (by decide) (argsL := [(.int (1 : Int32))]) (rest := []) rfl rfl rfl (W := 0) (Nat.le_of_ble_eq_true rfl) (by decide) (by decide) (by decide) (by decide) (km1 l Z n0 a0 hw h) (fun v hq hh => ?_)
  obtain ⟨rfl, rfl⟩ := hh
  show Goes p l e _ s m _ below meth c n0 _ h 0 0 17 #[.val (.int p1), .val (.int n), .val (.int (1 : Int32)), .val (.ref a_NOT_EQUALS), .unset, .unset, .unset] [(.int (5 : Int32))]
  refine Goes.blk A _ b0_17_2 (pc' := 20) (Ls' := #[.val (.int p1), .val (.int n), .val (.int (1 : Int32)), .val (.ref a_NOT_EQUALS), .val (.int (5 : Int32)), .unset, .unset]) (st' := [(.int n)]) rfl ?_
  refine Goes.if1 A at_20 (by decide) (pc' := 27) (by decide) (fun hc => (by have q9 := cP_int hc; simp only [cI] at q9; omega)) (fun hc1 => ?_)
  refine Goes.blk A _ b0_23_1 (pc' := 24) (Ls' := #[.val (.int p1), .val (.int n), .val (.int (1 : Int32)), .val (.ref a_NOT_EQUALS), .val (.int (5 : Int32)), .unset, .unset]) (st' := [(.int (0 : Int32))]) rfl ?_
  refine Goes.jump A at_24 (by decide) (pc' := 36) (by decide) ?_
  refine Goes.blk A _ b0_36_6 (pc' := 45) (Ls' := #[.val (.int p1), .val (.int n), .val (.int (1 : Int32)), .val (.ref a_NOT_EQUALS), .val (.int (5 : Int32)), .val (.int (0 : Int32)), .unset]) (st' := [(.int (((5 : Int32) >>> ((0 : Int32) &&& 31)) &&& (1 : Int32)))]) rfl ?_
  refine Goes.if1 A at_45 (by decide) (pc' := 52) (by decide) (fun hc => absurd hc (cP_f (by decide))) (fun hc2 => ?_)
  refine Goes.blk A _ b0_48_1 (pc' := 49) (Ls' := #[.val (.int p1), .val (.int n), .val (.int (1 : Int32)), .val (.ref a_NOT_EQUALS), .val (.int (5 : Int32)), .val (.int (0 : Int32)), .unset]) (st' := [(.int (1 : Int32))]) rfl ?_
  refine Goes.jump A at_49 (by decide) (pc' := 53) (by decide) ?_
  refine Goes.blk A _ b0_53_3 (pc' := 57) (Ls' := #[.val (.int p1), .val (.int n), .val (.int (1 : Int32)), .val (.ref a_NOT_EQUALS), .val (.int (5 : Int32)), .val (.int (0 : Int32)), .val (.int (1 : Int32))]) (st' := [(.int n), (.ref a_NOT_EQUALS)]) rfl ?_
  refine Goes.virt A (hw _ (List.mem_of_getElem? (i := 11) rfl)) (hw _ (List.mem_of_getElem? (i := 12) rfl)) (hw _ (List.mem_of_getElem? (i := 14) rfl)) (hw _ (List.mem_of_getElem? (i := 14) rfl)) (hw _ (List.mem_of_getElem? (i := 13) rfl)) (hw _ (List.mem_of_getElem? (i := 6) rfl)) (hw _ (List.mem_of_getElem? (i := 15) rfl)) at_57 pd_727780 (by decide) E_NOT_EQUALS (argsL := [(.int n)]) (rest := []) rfl rfl rfl (W := 0) (Nat.le_of_ble_eq_true rfl) (by decide) (by decide) (by decide) (by decide) (kh1m l Z n0 a0 hw h n hn a_NOT_EQUALS E_NOT_EQUALS F_NOT_EQUALS) (fun v hq hh => ?_)
  obtain ⟨rfl, rfl⟩ := hh
  show Goes p l e _ s m _ below meth c n0 _ h 0 0 60 #[.val (.int p1), .val (.int n), .val (.int (1 : Int32)), .val (.ref a_NOT_EQUALS), .val (.int (5 : Int32)), .val (.int (0 : Int32)), .val (.int (1 : Int32))] [(.int (1 : Int32))]
  refine Goes.blk A _ b0_60_1 (pc' := 62) (Ls' := #[.val (.int p1), .val (.int n), .val (.int (1 : Int32)), .val (.ref a_NOT_EQUALS), .val (.int (5 : Int32)), .val (.int (0 : Int32)), .val (.int (1 : Int32))]) (st' := [(.int (1 : Int32)), (.int (1 : Int32))]) rfl ?_
  refine Goes.if2 A at_62 (by decide) (pc' := 69) (by decide) (fun hc => absurd hc (cP_f (by decide))) (fun hc3 => ?_)
  refine Goes.blk A _ b0_65_1 (pc' := 66) (Ls' := #[.val (.int p1), .val (.int n), .val (.int (1 : Int32)), .val (.ref a_NOT_EQUALS), .val (.int (5 : Int32)), .val (.int (0 : Int32)), .val (.int (1 : Int32))]) (st' := [(.int (1 : Int32))]) rfl ?_
  refine Goes.jump A at_66 (by decide) (pc' := 70) (by decide) ?_
  exact Goes.retB A hret (by simp) hlk at_70 (z' := 1) (by decide) (by decide) (by decide) rfl
set_option maxRecDepth 65536 in
set_option maxHeartbeats 40000000 in
theorem k0_10 (l : Launch) (Z : State) (n0 : Nat) (a0 : Array Value) (hw : ∀ d ∈ tables_1, d.before a0 Z = true) (h : Heap) (p1 : Int32) (r1 : ((p1 &&& (2147483647 : Int32)) % (6 : Int32)) = (1 : Int32)) (a_EQUALS : Addr) (S_EQUALS : Sta Z h "com/example/routinier/routinier/Comparison$Operator" "EQUALS" "Lcom/example/routinier/routinier/Comparison$Operator;" (.ref a_EQUALS)) (E_EQUALS : Exa Z h a_EQUALS "com/example/routinier/routinier/Comparison$Operator") (F_EQUALS : Fld Z h a_EQUALS "java/lang/Enum" "ordinal" "I" (.int (0 : Int32))) (a_NOT_EQUALS : Addr) (S_NOT_EQUALS : Sta Z h "com/example/routinier/routinier/Comparison$Operator" "NOT_EQUALS" "Lcom/example/routinier/routinier/Comparison$Operator;" (.ref a_NOT_EQUALS)) (E_NOT_EQUALS : Exa Z h a_NOT_EQUALS "com/example/routinier/routinier/Comparison$Operator") (F_NOT_EQUALS : Fld Z h a_NOT_EQUALS "java/lang/Enum" "ordinal" "I" (.int (1 : Int32))) (a_LESS : Addr) (S_LESS : Sta Z h "com/example/routinier/routinier/Comparison$Operator" "LESS" "Lcom/example/routinier/routinier/Comparison$Operator;" (.ref a_LESS)) (E_LESS : Exa Z h a_LESS "com/example/routinier/routinier/Comparison$Operator") (F_LESS : Fld Z h a_LESS "java/lang/Enum" "ordinal" "I" (.int (2 : Int32))) (a_LESS_OR_EQUAL : Addr) (S_LESS_OR_EQUAL : Sta Z h "com/example/routinier/routinier/Comparison$Operator" "LESS_OR_EQUAL" "Lcom/example/routinier/routinier/Comparison$Operator;" (.ref a_LESS_OR_EQUAL)) (E_LESS_OR_EQUAL : Exa Z h a_LESS_OR_EQUAL "com/example/routinier/routinier/Comparison$Operator") (F_LESS_OR_EQUAL : Fld Z h a_LESS_OR_EQUAL "java/lang/Enum" "ordinal" "I" (.int (3 : Int32))) (a_GREATER : Addr) (S_GREATER : Sta Z h "com/example/routinier/routinier/Comparison$Operator" "GREATER" "Lcom/example/routinier/routinier/Comparison$Operator;" (.ref a_GREATER)) (E_GREATER : Exa Z h a_GREATER "com/example/routinier/routinier/Comparison$Operator") (F_GREATER : Fld Z h a_GREATER "java/lang/Enum" "ordinal" "I" (.int (4 : Int32))) (a_GREATER_OR_EQUAL : Addr) (S_GREATER_OR_EQUAL : Sta Z h "com/example/routinier/routinier/Comparison$Operator" "GREATER_OR_EQUAL" "Lcom/example/routinier/routinier/Comparison$Operator;" (.ref a_GREATER_OR_EQUAL)) (E_GREATER_OR_EQUAL : Exa Z h a_GREATER_OR_EQUAL "com/example/routinier/routinier/Comparison$Operator") (F_GREATER_OR_EQUAL : Fld Z h a_GREATER_OR_EQUAL "java/lang/Enum" "ordinal" "I" (.int (5 : Int32))) : Con l Z n0 x code maxLocals ret room_1 #[(.int p1), (.int (0 : Int32))] h (fun v _ => v = some (.int 1)) := by
  refine Con.mk (Ls := #[.val (.int p1), .val (.int (0 : Int32)), .unset, .unset, .unset, .unset, .unset]) pn_com_example_routinier_routinier_OperatorHoldsPinLaw (ef0_ii p1 (0 : Int32)) ?_
  intro p e s m below meth c A hret hlk hnm
  have l_0 : (0 : Int32).toInt = 0 := by decide
  refine Goes.blk A _ b0_0_1 (pc' := 1) (Ls' := #[.val (.int p1), .val (.int (0 : Int32)), .unset, .unset, .unset, .unset, .unset]) (st' := [(.int p1)]) rfl ?_
  refine Goes.ldcI A (hw _ (List.mem_of_getElem? (i := 0) rfl)) at_1 ?_
  refine Goes.blk A _ b0_3_2 (pc' := 6) (Ls' := #[.val (.int p1), .val (.int (0 : Int32)), .unset, .unset, .unset, .unset, .unset]) (st' := [(.int (6 : Int32)), (.int (p1 &&& (2147483647 : Int32)))]) rfl ?_
  refine Goes.irem A at_6 (by decide) ?_
  rw [r1]
  refine Goes.blk A _ b0_7_2 (pc' := 9) (Ls' := #[.val (.int p1), .val (.int (0 : Int32)), .val (.int (1 : Int32)), .unset, .unset, .unset, .unset]) (st' := [(.int (1 : Int32))]) rfl ?_
  refine Goes.static A (hw _ (List.mem_of_getElem? (i := 1) rfl)) (hw _ (List.mem_of_getElem? (i := 2) rfl)) (hw _ (List.mem_of_getElem? (i := 3) rfl)) (hw _ (List.mem_of_getElem? (i := 4) rfl)) at_9 pd_867258 (by decide) (argsL := [(.int (1 : Int32))]) (rest := []) rfl rfl rfl (W := 0) (Nat.le_of_ble_eq_true rfl) (by decide) (by decide) (by decide) (by decide) (kp1 l Z n0 a0 hw h a_NOT_EQUALS S_NOT_EQUALS) (fun v hq hh => ?_)
  obtain ⟨rfl, rfl⟩ := hh
  show Goes p l e _ s m _ below meth c n0 _ h 0 0 12 #[.val (.int p1), .val (.int (0 : Int32)), .val (.int (1 : Int32)), .unset, .unset, .unset, .unset] [(.ref a_NOT_EQUALS)]
  refine Goes.blk A _ b0_12_2 (pc' := 14) (Ls' := #[.val (.int p1), .val (.int (0 : Int32)), .val (.int (1 : Int32)), .val (.ref a_NOT_EQUALS), .unset, .unset, .unset]) (st' := [(.int (1 : Int32))]) rfl ?_
  refine Goes.static A (hw _ (List.mem_of_getElem? (i := 8) rfl)) (hw _ (List.mem_of_getElem? (i := 9) rfl)) (hw _ (List.mem_of_getElem? (i := 3) rfl)) (hw _ (List.mem_of_getElem? (i := 10) rfl)) at_14 pd_727763 (by decide) (argsL := [(.int (1 : Int32))]) (rest := []) rfl rfl rfl (W := 0) (Nat.le_of_ble_eq_true rfl) (by decide) (by decide) (by decide) (by decide) (km1 l Z n0 a0 hw h) (fun v hq hh => ?_)
  obtain ⟨rfl, rfl⟩ := hh
  show Goes p l e _ s m _ below meth c n0 _ h 0 0 17 #[.val (.int p1), .val (.int (0 : Int32)), .val (.int (1 : Int32)), .val (.ref a_NOT_EQUALS), .unset, .unset, .unset] [(.int (5 : Int32))]
  refine Goes.blk A _ b0_17_2 (pc' := 20) (Ls' := #[.val (.int p1), .val (.int (0 : Int32)), .val (.int (1 : Int32)), .val (.ref a_NOT_EQUALS), .val (.int (5 : Int32)), .unset, .unset]) (st' := [(.int (0 : Int32))]) rfl ?_
  refine Goes.if1 A at_20 (by decide) (pc' := 27) (by decide) (fun hc1 => ?_) (fun hc => absurd (cP_t (by decide)) hc)
  refine Goes.blk A _ b0_27_1 (pc' := 28) (Ls' := #[.val (.int p1), .val (.int (0 : Int32)), .val (.int (1 : Int32)), .val (.ref a_NOT_EQUALS), .val (.int (5 : Int32)), .unset, .unset]) (st' := [(.int (0 : Int32))]) rfl ?_
  refine Goes.if1 A at_28 (by decide) (pc' := 35) (by decide) (fun hc => absurd hc (cP_f (by decide))) (fun hc2 => ?_)
  refine Goes.blk A _ b0_31_1 (pc' := 32) (Ls' := #[.val (.int p1), .val (.int (0 : Int32)), .val (.int (1 : Int32)), .val (.ref a_NOT_EQUALS), .val (.int (5 : Int32)), .unset, .unset]) (st' := [(.int (1 : Int32))]) rfl ?_
  refine Goes.jump A at_32 (by decide) (pc' := 36) (by decide) ?_
  refine Goes.blk A _ b0_36_6 (pc' := 45) (Ls' := #[.val (.int p1), .val (.int (0 : Int32)), .val (.int (1 : Int32)), .val (.ref a_NOT_EQUALS), .val (.int (5 : Int32)), .val (.int (1 : Int32)), .unset]) (st' := [(.int (((5 : Int32) >>> ((1 : Int32) &&& 31)) &&& (1 : Int32)))]) rfl ?_
  refine Goes.if1 A at_45 (by decide) (pc' := 52) (by decide) (fun hc3 => ?_) (fun hc => absurd (cP_t (by decide)) hc)
  refine Goes.blk A _ b0_52_4 (pc' := 57) (Ls' := #[.val (.int p1), .val (.int (0 : Int32)), .val (.int (1 : Int32)), .val (.ref a_NOT_EQUALS), .val (.int (5 : Int32)), .val (.int (1 : Int32)), .val (.int (0 : Int32))]) (st' := [(.int (0 : Int32)), (.ref a_NOT_EQUALS)]) rfl ?_
  refine Goes.virt A (hw _ (List.mem_of_getElem? (i := 11) rfl)) (hw _ (List.mem_of_getElem? (i := 12) rfl)) (hw _ (List.mem_of_getElem? (i := 14) rfl)) (hw _ (List.mem_of_getElem? (i := 14) rfl)) (hw _ (List.mem_of_getElem? (i := 13) rfl)) (hw _ (List.mem_of_getElem? (i := 6) rfl)) (hw _ (List.mem_of_getElem? (i := 15) rfl)) at_57 pd_727780 (by decide) E_NOT_EQUALS (argsL := [(.int (0 : Int32))]) (rest := []) rfl rfl rfl (W := 0) (Nat.le_of_ble_eq_true rfl) (by decide) (by decide) (by decide) (by decide) (kh10 l Z n0 a0 hw h a_NOT_EQUALS E_NOT_EQUALS F_NOT_EQUALS) (fun v hq hh => ?_)
  obtain ⟨rfl, rfl⟩ := hh
  show Goes p l e _ s m _ below meth c n0 _ h 0 0 60 #[.val (.int p1), .val (.int (0 : Int32)), .val (.int (1 : Int32)), .val (.ref a_NOT_EQUALS), .val (.int (5 : Int32)), .val (.int (1 : Int32)), .val (.int (0 : Int32))] [(.int (0 : Int32))]
  refine Goes.blk A _ b0_60_1 (pc' := 62) (Ls' := #[.val (.int p1), .val (.int (0 : Int32)), .val (.int (1 : Int32)), .val (.ref a_NOT_EQUALS), .val (.int (5 : Int32)), .val (.int (1 : Int32)), .val (.int (0 : Int32))]) (st' := [(.int (0 : Int32)), (.int (0 : Int32))]) rfl ?_
  refine Goes.if2 A at_62 (by decide) (pc' := 69) (by decide) (fun hc => absurd hc (cP_f (by decide))) (fun hc4 => ?_)
  refine Goes.blk A _ b0_65_1 (pc' := 66) (Ls' := #[.val (.int p1), .val (.int (0 : Int32)), .val (.int (1 : Int32)), .val (.ref a_NOT_EQUALS), .val (.int (5 : Int32)), .val (.int (1 : Int32)), .val (.int (0 : Int32))]) (st' := [(.int (1 : Int32))]) rfl ?_
  refine Goes.jump A at_66 (by decide) (pc' := 70) (by decide) ?_
  exact Goes.retB A hret (by simp) hlk at_70 (z' := 1) (by decide) (by decide) (by decide) rfl
set_option maxRecDepth 65536 in
set_option maxHeartbeats 40000000 in
theorem k0_1p (l : Launch) (Z : State) (n0 : Nat) (a0 : Array Value) (hw : ∀ d ∈ tables_1, d.before a0 Z = true) (h : Heap) (p1 : Int32) (r1 : ((p1 &&& (2147483647 : Int32)) % (6 : Int32)) = (1 : Int32)) (n : Int32) (hn : 0 < n.toInt) (a_EQUALS : Addr) (S_EQUALS : Sta Z h "com/example/routinier/routinier/Comparison$Operator" "EQUALS" "Lcom/example/routinier/routinier/Comparison$Operator;" (.ref a_EQUALS)) (E_EQUALS : Exa Z h a_EQUALS "com/example/routinier/routinier/Comparison$Operator") (F_EQUALS : Fld Z h a_EQUALS "java/lang/Enum" "ordinal" "I" (.int (0 : Int32))) (a_NOT_EQUALS : Addr) (S_NOT_EQUALS : Sta Z h "com/example/routinier/routinier/Comparison$Operator" "NOT_EQUALS" "Lcom/example/routinier/routinier/Comparison$Operator;" (.ref a_NOT_EQUALS)) (E_NOT_EQUALS : Exa Z h a_NOT_EQUALS "com/example/routinier/routinier/Comparison$Operator") (F_NOT_EQUALS : Fld Z h a_NOT_EQUALS "java/lang/Enum" "ordinal" "I" (.int (1 : Int32))) (a_LESS : Addr) (S_LESS : Sta Z h "com/example/routinier/routinier/Comparison$Operator" "LESS" "Lcom/example/routinier/routinier/Comparison$Operator;" (.ref a_LESS)) (E_LESS : Exa Z h a_LESS "com/example/routinier/routinier/Comparison$Operator") (F_LESS : Fld Z h a_LESS "java/lang/Enum" "ordinal" "I" (.int (2 : Int32))) (a_LESS_OR_EQUAL : Addr) (S_LESS_OR_EQUAL : Sta Z h "com/example/routinier/routinier/Comparison$Operator" "LESS_OR_EQUAL" "Lcom/example/routinier/routinier/Comparison$Operator;" (.ref a_LESS_OR_EQUAL)) (E_LESS_OR_EQUAL : Exa Z h a_LESS_OR_EQUAL "com/example/routinier/routinier/Comparison$Operator") (F_LESS_OR_EQUAL : Fld Z h a_LESS_OR_EQUAL "java/lang/Enum" "ordinal" "I" (.int (3 : Int32))) (a_GREATER : Addr) (S_GREATER : Sta Z h "com/example/routinier/routinier/Comparison$Operator" "GREATER" "Lcom/example/routinier/routinier/Comparison$Operator;" (.ref a_GREATER)) (E_GREATER : Exa Z h a_GREATER "com/example/routinier/routinier/Comparison$Operator") (F_GREATER : Fld Z h a_GREATER "java/lang/Enum" "ordinal" "I" (.int (4 : Int32))) (a_GREATER_OR_EQUAL : Addr) (S_GREATER_OR_EQUAL : Sta Z h "com/example/routinier/routinier/Comparison$Operator" "GREATER_OR_EQUAL" "Lcom/example/routinier/routinier/Comparison$Operator;" (.ref a_GREATER_OR_EQUAL)) (E_GREATER_OR_EQUAL : Exa Z h a_GREATER_OR_EQUAL "com/example/routinier/routinier/Comparison$Operator") (F_GREATER_OR_EQUAL : Fld Z h a_GREATER_OR_EQUAL "java/lang/Enum" "ordinal" "I" (.int (5 : Int32))) : Con l Z n0 x code maxLocals ret room_1 #[(.int p1), (.int n)] h (fun v _ => v = some (.int 1)) := by
  refine Con.mk (Ls := #[.val (.int p1), .val (.int n), .unset, .unset, .unset, .unset, .unset]) pn_com_example_routinier_routinier_OperatorHoldsPinLaw (ef0_ii p1 n) ?_
  intro p e s m below meth c A hret hlk hnm
  have l_0 : (0 : Int32).toInt = 0 := by decide
  refine Goes.blk A _ b0_0_1 (pc' := 1) (Ls' := #[.val (.int p1), .val (.int n), .unset, .unset, .unset, .unset, .unset]) (st' := [(.int p1)]) rfl ?_
  refine Goes.ldcI A (hw _ (List.mem_of_getElem? (i := 0) rfl)) at_1 ?_
  refine Goes.blk A _ b0_3_2 (pc' := 6) (Ls' := #[.val (.int p1), .val (.int n), .unset, .unset, .unset, .unset, .unset]) (st' := [(.int (6 : Int32)), (.int (p1 &&& (2147483647 : Int32)))]) rfl ?_
  refine Goes.irem A at_6 (by decide) ?_
  rw [r1]
  refine Goes.blk A _ b0_7_2 (pc' := 9) (Ls' := #[.val (.int p1), .val (.int n), .val (.int (1 : Int32)), .unset, .unset, .unset, .unset]) (st' := [(.int (1 : Int32))]) rfl ?_
  refine Goes.static A (hw _ (List.mem_of_getElem? (i := 1) rfl)) (hw _ (List.mem_of_getElem? (i := 2) rfl)) (hw _ (List.mem_of_getElem? (i := 3) rfl)) (hw _ (List.mem_of_getElem? (i := 4) rfl)) at_9 pd_867258 (by decide) (argsL := [(.int (1 : Int32))]) (rest := []) rfl rfl rfl (W := 0) (Nat.le_of_ble_eq_true rfl) (by decide) (by decide) (by decide) (by decide) (kp1 l Z n0 a0 hw h a_NOT_EQUALS S_NOT_EQUALS) (fun v hq hh => ?_)
  obtain ⟨rfl, rfl⟩ := hh
  show Goes p l e _ s m _ below meth c n0 _ h 0 0 12 #[.val (.int p1), .val (.int n), .val (.int (1 : Int32)), .unset, .unset, .unset, .unset] [(.ref a_NOT_EQUALS)]
  refine Goes.blk A _ b0_12_2 (pc' := 14) (Ls' := #[.val (.int p1), .val (.int n), .val (.int (1 : Int32)), .val (.ref a_NOT_EQUALS), .unset, .unset, .unset]) (st' := [(.int (1 : Int32))]) rfl ?_
  refine Goes.static A (hw _ (List.mem_of_getElem? (i := 8) rfl)) (hw _ (List.mem_of_getElem? (i := 9) rfl)) (hw _ (List.mem_of_getElem? (i := 3) rfl)) (hw _ (List.mem_of_getElem? (i := 10) rfl)) at_14 pd_727763 (by decide) (argsL := [(.int (1 : Int32))]) (rest := []) rfl rfl rfl (W := 0) (Nat.le_of_ble_eq_true rfl) (by decide) (by decide) (by decide) (by decide) (km1 l Z n0 a0 hw h) (fun v hq hh => ?_)
  obtain ⟨rfl, rfl⟩ := hh
  show Goes p l e _ s m _ below meth c n0 _ h 0 0 17 #[.val (.int p1), .val (.int n), .val (.int (1 : Int32)), .val (.ref a_NOT_EQUALS), .unset, .unset, .unset] [(.int (5 : Int32))]
  refine Goes.blk A _ b0_17_2 (pc' := 20) (Ls' := #[.val (.int p1), .val (.int n), .val (.int (1 : Int32)), .val (.ref a_NOT_EQUALS), .val (.int (5 : Int32)), .unset, .unset]) (st' := [(.int n)]) rfl ?_
  refine Goes.if1 A at_20 (by decide) (pc' := 27) (by decide) (fun hc1 => ?_) (fun hc => (by have q9 := cP_nint hc; simp only [cI] at q9; omega))
  refine Goes.blk A _ b0_27_1 (pc' := 28) (Ls' := #[.val (.int p1), .val (.int n), .val (.int (1 : Int32)), .val (.ref a_NOT_EQUALS), .val (.int (5 : Int32)), .unset, .unset]) (st' := [(.int n)]) rfl ?_
  refine Goes.if1 A at_28 (by decide) (pc' := 35) (by decide) (fun hc2 => ?_) (fun hc => (by have q9 := cP_nint hc; simp only [cI] at q9; omega))
  refine Goes.blk A _ b0_35_7 (pc' := 45) (Ls' := #[.val (.int p1), .val (.int n), .val (.int (1 : Int32)), .val (.ref a_NOT_EQUALS), .val (.int (5 : Int32)), .val (.int (2 : Int32)), .unset]) (st' := [(.int (((5 : Int32) >>> ((2 : Int32) &&& 31)) &&& (1 : Int32)))]) rfl ?_
  refine Goes.if1 A at_45 (by decide) (pc' := 52) (by decide) (fun hc => absurd hc (cP_f (by decide))) (fun hc3 => ?_)
  refine Goes.blk A _ b0_48_1 (pc' := 49) (Ls' := #[.val (.int p1), .val (.int n), .val (.int (1 : Int32)), .val (.ref a_NOT_EQUALS), .val (.int (5 : Int32)), .val (.int (2 : Int32)), .unset]) (st' := [(.int (1 : Int32))]) rfl ?_
  refine Goes.jump A at_49 (by decide) (pc' := 53) (by decide) ?_
  refine Goes.blk A _ b0_53_3 (pc' := 57) (Ls' := #[.val (.int p1), .val (.int n), .val (.int (1 : Int32)), .val (.ref a_NOT_EQUALS), .val (.int (5 : Int32)), .val (.int (2 : Int32)), .val (.int (1 : Int32))]) (st' := [(.int n), (.ref a_NOT_EQUALS)]) rfl ?_
  refine Goes.virt A (hw _ (List.mem_of_getElem? (i := 11) rfl)) (hw _ (List.mem_of_getElem? (i := 12) rfl)) (hw _ (List.mem_of_getElem? (i := 14) rfl)) (hw _ (List.mem_of_getElem? (i := 14) rfl)) (hw _ (List.mem_of_getElem? (i := 13) rfl)) (hw _ (List.mem_of_getElem? (i := 6) rfl)) (hw _ (List.mem_of_getElem? (i := 15) rfl)) at_57 pd_727780 (by decide) E_NOT_EQUALS (argsL := [(.int n)]) (rest := []) rfl rfl rfl (W := 0) (Nat.le_of_ble_eq_true rfl) (by decide) (by decide) (by decide) (by decide) (kh1p l Z n0 a0 hw h n hn a_NOT_EQUALS E_NOT_EQUALS F_NOT_EQUALS) (fun v hq hh => ?_)
  obtain ⟨rfl, rfl⟩ := hh
  show Goes p l e _ s m _ below meth c n0 _ h 0 0 60 #[.val (.int p1), .val (.int n), .val (.int (1 : Int32)), .val (.ref a_NOT_EQUALS), .val (.int (5 : Int32)), .val (.int (2 : Int32)), .val (.int (1 : Int32))] [(.int (1 : Int32))]
  refine Goes.blk A _ b0_60_1 (pc' := 62) (Ls' := #[.val (.int p1), .val (.int n), .val (.int (1 : Int32)), .val (.ref a_NOT_EQUALS), .val (.int (5 : Int32)), .val (.int (2 : Int32)), .val (.int (1 : Int32))]) (st' := [(.int (1 : Int32)), (.int (1 : Int32))]) rfl ?_
  refine Goes.if2 A at_62 (by decide) (pc' := 69) (by decide) (fun hc => absurd hc (cP_f (by decide))) (fun hc4 => ?_)
  refine Goes.blk A _ b0_65_1 (pc' := 66) (Ls' := #[.val (.int p1), .val (.int n), .val (.int (1 : Int32)), .val (.ref a_NOT_EQUALS), .val (.int (5 : Int32)), .val (.int (2 : Int32)), .val (.int (1 : Int32))]) (st' := [(.int (1 : Int32))]) rfl ?_
  refine Goes.jump A at_66 (by decide) (pc' := 70) (by decide) ?_
  exact Goes.retB A hret (by simp) hlk at_70 (z' := 1) (by decide) (by decide) (by decide) rfl
set_option maxRecDepth 65536 in
set_option maxHeartbeats 40000000 in
theorem k0_2m (l : Launch) (Z : State) (n0 : Nat) (a0 : Array Value) (hw : ∀ d ∈ tables_1, d.before a0 Z = true) (h : Heap) (p1 : Int32) (r1 : ((p1 &&& (2147483647 : Int32)) % (6 : Int32)) = (2 : Int32)) (n : Int32) (hn : n.toInt < 0) (a_EQUALS : Addr) (S_EQUALS : Sta Z h "com/example/routinier/routinier/Comparison$Operator" "EQUALS" "Lcom/example/routinier/routinier/Comparison$Operator;" (.ref a_EQUALS)) (E_EQUALS : Exa Z h a_EQUALS "com/example/routinier/routinier/Comparison$Operator") (F_EQUALS : Fld Z h a_EQUALS "java/lang/Enum" "ordinal" "I" (.int (0 : Int32))) (a_NOT_EQUALS : Addr) (S_NOT_EQUALS : Sta Z h "com/example/routinier/routinier/Comparison$Operator" "NOT_EQUALS" "Lcom/example/routinier/routinier/Comparison$Operator;" (.ref a_NOT_EQUALS)) (E_NOT_EQUALS : Exa Z h a_NOT_EQUALS "com/example/routinier/routinier/Comparison$Operator") (F_NOT_EQUALS : Fld Z h a_NOT_EQUALS "java/lang/Enum" "ordinal" "I" (.int (1 : Int32))) (a_LESS : Addr) (S_LESS : Sta Z h "com/example/routinier/routinier/Comparison$Operator" "LESS" "Lcom/example/routinier/routinier/Comparison$Operator;" (.ref a_LESS)) (E_LESS : Exa Z h a_LESS "com/example/routinier/routinier/Comparison$Operator") (F_LESS : Fld Z h a_LESS "java/lang/Enum" "ordinal" "I" (.int (2 : Int32))) (a_LESS_OR_EQUAL : Addr) (S_LESS_OR_EQUAL : Sta Z h "com/example/routinier/routinier/Comparison$Operator" "LESS_OR_EQUAL" "Lcom/example/routinier/routinier/Comparison$Operator;" (.ref a_LESS_OR_EQUAL)) (E_LESS_OR_EQUAL : Exa Z h a_LESS_OR_EQUAL "com/example/routinier/routinier/Comparison$Operator") (F_LESS_OR_EQUAL : Fld Z h a_LESS_OR_EQUAL "java/lang/Enum" "ordinal" "I" (.int (3 : Int32))) (a_GREATER : Addr) (S_GREATER : Sta Z h "com/example/routinier/routinier/Comparison$Operator" "GREATER" "Lcom/example/routinier/routinier/Comparison$Operator;" (.ref a_GREATER)) (E_GREATER : Exa Z h a_GREATER "com/example/routinier/routinier/Comparison$Operator") (F_GREATER : Fld Z h a_GREATER "java/lang/Enum" "ordinal" "I" (.int (4 : Int32))) (a_GREATER_OR_EQUAL : Addr) (S_GREATER_OR_EQUAL : Sta Z h "com/example/routinier/routinier/Comparison$Operator" "GREATER_OR_EQUAL" "Lcom/example/routinier/routinier/Comparison$Operator;" (.ref a_GREATER_OR_EQUAL)) (E_GREATER_OR_EQUAL : Exa Z h a_GREATER_OR_EQUAL "com/example/routinier/routinier/Comparison$Operator") (F_GREATER_OR_EQUAL : Fld Z h a_GREATER_OR_EQUAL "java/lang/Enum" "ordinal" "I" (.int (5 : Int32))) : Con l Z n0 x code maxLocals ret room_1 #[(.int p1), (.int n)] h (fun v _ => v = some (.int 1)) := by
  refine Con.mk (Ls := #[.val (.int p1), .val (.int n), .unset, .unset, .unset, .unset, .unset]) pn_com_example_routinier_routinier_OperatorHoldsPinLaw (ef0_ii p1 n) ?_
  intro p e s m below meth c A hret hlk hnm
  have l_0 : (0 : Int32).toInt = 0 := by decide
  refine Goes.blk A _ b0_0_1 (pc' := 1) (Ls' := #[.val (.int p1), .val (.int n), .unset, .unset, .unset, .unset, .unset]) (st' := [(.int p1)]) rfl ?_
  refine Goes.ldcI A (hw _ (List.mem_of_getElem? (i := 0) rfl)) at_1 ?_
  refine Goes.blk A _ b0_3_2 (pc' := 6) (Ls' := #[.val (.int p1), .val (.int n), .unset, .unset, .unset, .unset, .unset]) (st' := [(.int (6 : Int32)), (.int (p1 &&& (2147483647 : Int32)))]) rfl ?_
  refine Goes.irem A at_6 (by decide) ?_
  rw [r1]
  refine Goes.blk A _ b0_7_2 (pc' := 9) (Ls' := #[.val (.int p1), .val (.int n), .val (.int (2 : Int32)), .unset, .unset, .unset, .unset]) (st' := [(.int (2 : Int32))]) rfl ?_
  refine Goes.static A (hw _ (List.mem_of_getElem? (i := 1) rfl)) (hw _ (List.mem_of_getElem? (i := 2) rfl)) (hw _ (List.mem_of_getElem? (i := 3) rfl)) (hw _ (List.mem_of_getElem? (i := 4) rfl)) at_9 pd_867258 (by decide) (argsL := [(.int (2 : Int32))]) (rest := []) rfl rfl rfl (W := 0) (Nat.le_of_ble_eq_true rfl) (by decide) (by decide) (by decide) (by decide) (kp2 l Z n0 a0 hw h a_LESS S_LESS) (fun v hq hh => ?_)
  obtain ⟨rfl, rfl⟩ := hh
  show Goes p l e _ s m _ below meth c n0 _ h 0 0 12 #[.val (.int p1), .val (.int n), .val (.int (2 : Int32)), .unset, .unset, .unset, .unset] [(.ref a_LESS)]
  refine Goes.blk A _ b0_12_2 (pc' := 14) (Ls' := #[.val (.int p1), .val (.int n), .val (.int (2 : Int32)), .val (.ref a_LESS), .unset, .unset, .unset]) (st' := [(.int (2 : Int32))]) rfl ?_
  refine Goes.static A (hw _ (List.mem_of_getElem? (i := 8) rfl)) (hw _ (List.mem_of_getElem? (i := 9) rfl)) (hw _ (List.mem_of_getElem? (i := 3) rfl)) (hw _ (List.mem_of_getElem? (i := 10) rfl)) at_14 pd_727763 (by decide) (argsL := [(.int (2 : Int32))]) (rest := []) rfl rfl rfl (W := 0) (Nat.le_of_ble_eq_true rfl) (by decide) (by decide) (by decide) (by decide) (km2 l Z n0 a0 hw h) (fun v hq hh => ?_)
  obtain ⟨rfl, rfl⟩ := hh
  show Goes p l e _ s m _ below meth c n0 _ h 0 0 17 #[.val (.int p1), .val (.int n), .val (.int (2 : Int32)), .val (.ref a_LESS), .unset, .unset, .unset] [(.int (1 : Int32))]
  refine Goes.blk A _ b0_17_2 (pc' := 20) (Ls' := #[.val (.int p1), .val (.int n), .val (.int (2 : Int32)), .val (.ref a_LESS), .val (.int (1 : Int32)), .unset, .unset]) (st' := [(.int n)]) rfl ?_
  refine Goes.if1 A at_20 (by decide) (pc' := 27) (by decide) (fun hc => (by have q9 := cP_int hc; simp only [cI] at q9; omega)) (fun hc1 => ?_)
  refine Goes.blk A _ b0_23_1 (pc' := 24) (Ls' := #[.val (.int p1), .val (.int n), .val (.int (2 : Int32)), .val (.ref a_LESS), .val (.int (1 : Int32)), .unset, .unset]) (st' := [(.int (0 : Int32))]) rfl ?_
  refine Goes.jump A at_24 (by decide) (pc' := 36) (by decide) ?_
  refine Goes.blk A _ b0_36_6 (pc' := 45) (Ls' := #[.val (.int p1), .val (.int n), .val (.int (2 : Int32)), .val (.ref a_LESS), .val (.int (1 : Int32)), .val (.int (0 : Int32)), .unset]) (st' := [(.int (((1 : Int32) >>> ((0 : Int32) &&& 31)) &&& (1 : Int32)))]) rfl ?_
  refine Goes.if1 A at_45 (by decide) (pc' := 52) (by decide) (fun hc => absurd hc (cP_f (by decide))) (fun hc2 => ?_)
  refine Goes.blk A _ b0_48_1 (pc' := 49) (Ls' := #[.val (.int p1), .val (.int n), .val (.int (2 : Int32)), .val (.ref a_LESS), .val (.int (1 : Int32)), .val (.int (0 : Int32)), .unset]) (st' := [(.int (1 : Int32))]) rfl ?_
  refine Goes.jump A at_49 (by decide) (pc' := 53) (by decide) ?_
  refine Goes.blk A _ b0_53_3 (pc' := 57) (Ls' := #[.val (.int p1), .val (.int n), .val (.int (2 : Int32)), .val (.ref a_LESS), .val (.int (1 : Int32)), .val (.int (0 : Int32)), .val (.int (1 : Int32))]) (st' := [(.int n), (.ref a_LESS)]) rfl ?_
  refine Goes.virt A (hw _ (List.mem_of_getElem? (i := 11) rfl)) (hw _ (List.mem_of_getElem? (i := 12) rfl)) (hw _ (List.mem_of_getElem? (i := 14) rfl)) (hw _ (List.mem_of_getElem? (i := 14) rfl)) (hw _ (List.mem_of_getElem? (i := 13) rfl)) (hw _ (List.mem_of_getElem? (i := 6) rfl)) (hw _ (List.mem_of_getElem? (i := 15) rfl)) at_57 pd_727780 (by decide) E_LESS (argsL := [(.int n)]) (rest := []) rfl rfl rfl (W := 0) (Nat.le_of_ble_eq_true rfl) (by decide) (by decide) (by decide) (by decide) (kh2m l Z n0 a0 hw h n hn a_LESS E_LESS F_LESS) (fun v hq hh => ?_)
  obtain ⟨rfl, rfl⟩ := hh
  show Goes p l e _ s m _ below meth c n0 _ h 0 0 60 #[.val (.int p1), .val (.int n), .val (.int (2 : Int32)), .val (.ref a_LESS), .val (.int (1 : Int32)), .val (.int (0 : Int32)), .val (.int (1 : Int32))] [(.int (1 : Int32))]
  refine Goes.blk A _ b0_60_1 (pc' := 62) (Ls' := #[.val (.int p1), .val (.int n), .val (.int (2 : Int32)), .val (.ref a_LESS), .val (.int (1 : Int32)), .val (.int (0 : Int32)), .val (.int (1 : Int32))]) (st' := [(.int (1 : Int32)), (.int (1 : Int32))]) rfl ?_
  refine Goes.if2 A at_62 (by decide) (pc' := 69) (by decide) (fun hc => absurd hc (cP_f (by decide))) (fun hc3 => ?_)
  refine Goes.blk A _ b0_65_1 (pc' := 66) (Ls' := #[.val (.int p1), .val (.int n), .val (.int (2 : Int32)), .val (.ref a_LESS), .val (.int (1 : Int32)), .val (.int (0 : Int32)), .val (.int (1 : Int32))]) (st' := [(.int (1 : Int32))]) rfl ?_
  refine Goes.jump A at_66 (by decide) (pc' := 70) (by decide) ?_
  exact Goes.retB A hret (by simp) hlk at_70 (z' := 1) (by decide) (by decide) (by decide) rfl
set_option maxRecDepth 65536 in
set_option maxHeartbeats 40000000 in
theorem k0_20 (l : Launch) (Z : State) (n0 : Nat) (a0 : Array Value) (hw : ∀ d ∈ tables_1, d.before a0 Z = true) (h : Heap) (p1 : Int32) (r1 : ((p1 &&& (2147483647 : Int32)) % (6 : Int32)) = (2 : Int32)) (a_EQUALS : Addr) (S_EQUALS : Sta Z h "com/example/routinier/routinier/Comparison$Operator" "EQUALS" "Lcom/example/routinier/routinier/Comparison$Operator;" (.ref a_EQUALS)) (E_EQUALS : Exa Z h a_EQUALS "com/example/routinier/routinier/Comparison$Operator") (F_EQUALS : Fld Z h a_EQUALS "java/lang/Enum" "ordinal" "I" (.int (0 : Int32))) (a_NOT_EQUALS : Addr) (S_NOT_EQUALS : Sta Z h "com/example/routinier/routinier/Comparison$Operator" "NOT_EQUALS" "Lcom/example/routinier/routinier/Comparison$Operator;" (.ref a_NOT_EQUALS)) (E_NOT_EQUALS : Exa Z h a_NOT_EQUALS "com/example/routinier/routinier/Comparison$Operator") (F_NOT_EQUALS : Fld Z h a_NOT_EQUALS "java/lang/Enum" "ordinal" "I" (.int (1 : Int32))) (a_LESS : Addr) (S_LESS : Sta Z h "com/example/routinier/routinier/Comparison$Operator" "LESS" "Lcom/example/routinier/routinier/Comparison$Operator;" (.ref a_LESS)) (E_LESS : Exa Z h a_LESS "com/example/routinier/routinier/Comparison$Operator") (F_LESS : Fld Z h a_LESS "java/lang/Enum" "ordinal" "I" (.int (2 : Int32))) (a_LESS_OR_EQUAL : Addr) (S_LESS_OR_EQUAL : Sta Z h "com/example/routinier/routinier/Comparison$Operator" "LESS_OR_EQUAL" "Lcom/example/routinier/routinier/Comparison$Operator;" (.ref a_LESS_OR_EQUAL)) (E_LESS_OR_EQUAL : Exa Z h a_LESS_OR_EQUAL "com/example/routinier/routinier/Comparison$Operator") (F_LESS_OR_EQUAL : Fld Z h a_LESS_OR_EQUAL "java/lang/Enum" "ordinal" "I" (.int (3 : Int32))) (a_GREATER : Addr) (S_GREATER : Sta Z h "com/example/routinier/routinier/Comparison$Operator" "GREATER" "Lcom/example/routinier/routinier/Comparison$Operator;" (.ref a_GREATER)) (E_GREATER : Exa Z h a_GREATER "com/example/routinier/routinier/Comparison$Operator") (F_GREATER : Fld Z h a_GREATER "java/lang/Enum" "ordinal" "I" (.int (4 : Int32))) (a_GREATER_OR_EQUAL : Addr) (S_GREATER_OR_EQUAL : Sta Z h "com/example/routinier/routinier/Comparison$Operator" "GREATER_OR_EQUAL" "Lcom/example/routinier/routinier/Comparison$Operator;" (.ref a_GREATER_OR_EQUAL)) (E_GREATER_OR_EQUAL : Exa Z h a_GREATER_OR_EQUAL "com/example/routinier/routinier/Comparison$Operator") (F_GREATER_OR_EQUAL : Fld Z h a_GREATER_OR_EQUAL "java/lang/Enum" "ordinal" "I" (.int (5 : Int32))) : Con l Z n0 x code maxLocals ret room_1 #[(.int p1), (.int (0 : Int32))] h (fun v _ => v = some (.int 1)) := by
  refine Con.mk (Ls := #[.val (.int p1), .val (.int (0 : Int32)), .unset, .unset, .unset, .unset, .unset]) pn_com_example_routinier_routinier_OperatorHoldsPinLaw (ef0_ii p1 (0 : Int32)) ?_
  intro p e s m below meth c A hret hlk hnm
  have l_0 : (0 : Int32).toInt = 0 := by decide
  refine Goes.blk A _ b0_0_1 (pc' := 1) (Ls' := #[.val (.int p1), .val (.int (0 : Int32)), .unset, .unset, .unset, .unset, .unset]) (st' := [(.int p1)]) rfl ?_
  refine Goes.ldcI A (hw _ (List.mem_of_getElem? (i := 0) rfl)) at_1 ?_
  refine Goes.blk A _ b0_3_2 (pc' := 6) (Ls' := #[.val (.int p1), .val (.int (0 : Int32)), .unset, .unset, .unset, .unset, .unset]) (st' := [(.int (6 : Int32)), (.int (p1 &&& (2147483647 : Int32)))]) rfl ?_
  refine Goes.irem A at_6 (by decide) ?_
  rw [r1]
  refine Goes.blk A _ b0_7_2 (pc' := 9) (Ls' := #[.val (.int p1), .val (.int (0 : Int32)), .val (.int (2 : Int32)), .unset, .unset, .unset, .unset]) (st' := [(.int (2 : Int32))]) rfl ?_
  refine Goes.static A (hw _ (List.mem_of_getElem? (i := 1) rfl)) (hw _ (List.mem_of_getElem? (i := 2) rfl)) (hw _ (List.mem_of_getElem? (i := 3) rfl)) (hw _ (List.mem_of_getElem? (i := 4) rfl)) at_9 pd_867258 (by decide) (argsL := [(.int (2 : Int32))]) (rest := []) rfl rfl rfl (W := 0) (Nat.le_of_ble_eq_true rfl) (by decide) (by decide) (by decide) (by decide) (kp2 l Z n0 a0 hw h a_LESS S_LESS) (fun v hq hh => ?_)
  obtain ⟨rfl, rfl⟩ := hh
  show Goes p l e _ s m _ below meth c n0 _ h 0 0 12 #[.val (.int p1), .val (.int (0 : Int32)), .val (.int (2 : Int32)), .unset, .unset, .unset, .unset] [(.ref a_LESS)]
  refine Goes.blk A _ b0_12_2 (pc' := 14) (Ls' := #[.val (.int p1), .val (.int (0 : Int32)), .val (.int (2 : Int32)), .val (.ref a_LESS), .unset, .unset, .unset]) (st' := [(.int (2 : Int32))]) rfl ?_
  refine Goes.static A (hw _ (List.mem_of_getElem? (i := 8) rfl)) (hw _ (List.mem_of_getElem? (i := 9) rfl)) (hw _ (List.mem_of_getElem? (i := 3) rfl)) (hw _ (List.mem_of_getElem? (i := 10) rfl)) at_14 pd_727763 (by decide) (argsL := [(.int (2 : Int32))]) (rest := []) rfl rfl rfl (W := 0) (Nat.le_of_ble_eq_true rfl) (by decide) (by decide) (by decide) (by decide) (km2 l Z n0 a0 hw h) (fun v hq hh => ?_)
  obtain ⟨rfl, rfl⟩ := hh
  show Goes p l e _ s m _ below meth c n0 _ h 0 0 17 #[.val (.int p1), .val (.int (0 : Int32)), .val (.int (2 : Int32)), .val (.ref a_LESS), .unset, .unset, .unset] [(.int (1 : Int32))]
  refine Goes.blk A _ b0_17_2 (pc' := 20) (Ls' := #[.val (.int p1), .val (.int (0 : Int32)), .val (.int (2 : Int32)), .val (.ref a_LESS), .val (.int (1 : Int32)), .unset, .unset]) (st' := [(.int (0 : Int32))]) rfl ?_
  refine Goes.if1 A at_20 (by decide) (pc' := 27) (by decide) (fun hc1 => ?_) (fun hc => absurd (cP_t (by decide)) hc)
  refine Goes.blk A _ b0_27_1 (pc' := 28) (Ls' := #[.val (.int p1), .val (.int (0 : Int32)), .val (.int (2 : Int32)), .val (.ref a_LESS), .val (.int (1 : Int32)), .unset, .unset]) (st' := [(.int (0 : Int32))]) rfl ?_
  refine Goes.if1 A at_28 (by decide) (pc' := 35) (by decide) (fun hc => absurd hc (cP_f (by decide))) (fun hc2 => ?_)
  refine Goes.blk A _ b0_31_1 (pc' := 32) (Ls' := #[.val (.int p1), .val (.int (0 : Int32)), .val (.int (2 : Int32)), .val (.ref a_LESS), .val (.int (1 : Int32)), .unset, .unset]) (st' := [(.int (1 : Int32))]) rfl ?_
  refine Goes.jump A at_32 (by decide) (pc' := 36) (by decide) ?_
  refine Goes.blk A _ b0_36_6 (pc' := 45) (Ls' := #[.val (.int p1), .val (.int (0 : Int32)), .val (.int (2 : Int32)), .val (.ref a_LESS), .val (.int (1 : Int32)), .val (.int (1 : Int32)), .unset]) (st' := [(.int (((1 : Int32) >>> ((1 : Int32) &&& 31)) &&& (1 : Int32)))]) rfl ?_
  refine Goes.if1 A at_45 (by decide) (pc' := 52) (by decide) (fun hc3 => ?_) (fun hc => absurd (cP_t (by decide)) hc)
  refine Goes.blk A _ b0_52_4 (pc' := 57) (Ls' := #[.val (.int p1), .val (.int (0 : Int32)), .val (.int (2 : Int32)), .val (.ref a_LESS), .val (.int (1 : Int32)), .val (.int (1 : Int32)), .val (.int (0 : Int32))]) (st' := [(.int (0 : Int32)), (.ref a_LESS)]) rfl ?_
  refine Goes.virt A (hw _ (List.mem_of_getElem? (i := 11) rfl)) (hw _ (List.mem_of_getElem? (i := 12) rfl)) (hw _ (List.mem_of_getElem? (i := 14) rfl)) (hw _ (List.mem_of_getElem? (i := 14) rfl)) (hw _ (List.mem_of_getElem? (i := 13) rfl)) (hw _ (List.mem_of_getElem? (i := 6) rfl)) (hw _ (List.mem_of_getElem? (i := 15) rfl)) at_57 pd_727780 (by decide) E_LESS (argsL := [(.int (0 : Int32))]) (rest := []) rfl rfl rfl (W := 0) (Nat.le_of_ble_eq_true rfl) (by decide) (by decide) (by decide) (by decide) (kh20 l Z n0 a0 hw h a_LESS E_LESS F_LESS) (fun v hq hh => ?_)
  obtain ⟨rfl, rfl⟩ := hh
  show Goes p l e _ s m _ below meth c n0 _ h 0 0 60 #[.val (.int p1), .val (.int (0 : Int32)), .val (.int (2 : Int32)), .val (.ref a_LESS), .val (.int (1 : Int32)), .val (.int (1 : Int32)), .val (.int (0 : Int32))] [(.int (0 : Int32))]
  refine Goes.blk A _ b0_60_1 (pc' := 62) (Ls' := #[.val (.int p1), .val (.int (0 : Int32)), .val (.int (2 : Int32)), .val (.ref a_LESS), .val (.int (1 : Int32)), .val (.int (1 : Int32)), .val (.int (0 : Int32))]) (st' := [(.int (0 : Int32)), (.int (0 : Int32))]) rfl ?_
  refine Goes.if2 A at_62 (by decide) (pc' := 69) (by decide) (fun hc => absurd hc (cP_f (by decide))) (fun hc4 => ?_)
  refine Goes.blk A _ b0_65_1 (pc' := 66) (Ls' := #[.val (.int p1), .val (.int (0 : Int32)), .val (.int (2 : Int32)), .val (.ref a_LESS), .val (.int (1 : Int32)), .val (.int (1 : Int32)), .val (.int (0 : Int32))]) (st' := [(.int (1 : Int32))]) rfl ?_
  refine Goes.jump A at_66 (by decide) (pc' := 70) (by decide) ?_
  exact Goes.retB A hret (by simp) hlk at_70 (z' := 1) (by decide) (by decide) (by decide) rfl
set_option maxRecDepth 65536 in
set_option maxHeartbeats 40000000 in
theorem k0_2p (l : Launch) (Z : State) (n0 : Nat) (a0 : Array Value) (hw : ∀ d ∈ tables_1, d.before a0 Z = true) (h : Heap) (p1 : Int32) (r1 : ((p1 &&& (2147483647 : Int32)) % (6 : Int32)) = (2 : Int32)) (n : Int32) (hn : 0 < n.toInt) (a_EQUALS : Addr) (S_EQUALS : Sta Z h "com/example/routinier/routinier/Comparison$Operator" "EQUALS" "Lcom/example/routinier/routinier/Comparison$Operator;" (.ref a_EQUALS)) (E_EQUALS : Exa Z h a_EQUALS "com/example/routinier/routinier/Comparison$Operator") (F_EQUALS : Fld Z h a_EQUALS "java/lang/Enum" "ordinal" "I" (.int (0 : Int32))) (a_NOT_EQUALS : Addr) (S_NOT_EQUALS : Sta Z h "com/example/routinier/routinier/Comparison$Operator" "NOT_EQUALS" "Lcom/example/routinier/routinier/Comparison$Operator;" (.ref a_NOT_EQUALS)) (E_NOT_EQUALS : Exa Z h a_NOT_EQUALS "com/example/routinier/routinier/Comparison$Operator") (F_NOT_EQUALS : Fld Z h a_NOT_EQUALS "java/lang/Enum" "ordinal" "I" (.int (1 : Int32))) (a_LESS : Addr) (S_LESS : Sta Z h "com/example/routinier/routinier/Comparison$Operator" "LESS" "Lcom/example/routinier/routinier/Comparison$Operator;" (.ref a_LESS)) (E_LESS : Exa Z h a_LESS "com/example/routinier/routinier/Comparison$Operator") (F_LESS : Fld Z h a_LESS "java/lang/Enum" "ordinal" "I" (.int (2 : Int32))) (a_LESS_OR_EQUAL : Addr) (S_LESS_OR_EQUAL : Sta Z h "com/example/routinier/routinier/Comparison$Operator" "LESS_OR_EQUAL" "Lcom/example/routinier/routinier/Comparison$Operator;" (.ref a_LESS_OR_EQUAL)) (E_LESS_OR_EQUAL : Exa Z h a_LESS_OR_EQUAL "com/example/routinier/routinier/Comparison$Operator") (F_LESS_OR_EQUAL : Fld Z h a_LESS_OR_EQUAL "java/lang/Enum" "ordinal" "I" (.int (3 : Int32))) (a_GREATER : Addr) (S_GREATER : Sta Z h "com/example/routinier/routinier/Comparison$Operator" "GREATER" "Lcom/example/routinier/routinier/Comparison$Operator;" (.ref a_GREATER)) (E_GREATER : Exa Z h a_GREATER "com/example/routinier/routinier/Comparison$Operator") (F_GREATER : Fld Z h a_GREATER "java/lang/Enum" "ordinal" "I" (.int (4 : Int32))) (a_GREATER_OR_EQUAL : Addr) (S_GREATER_OR_EQUAL : Sta Z h "com/example/routinier/routinier/Comparison$Operator" "GREATER_OR_EQUAL" "Lcom/example/routinier/routinier/Comparison$Operator;" (.ref a_GREATER_OR_EQUAL)) (E_GREATER_OR_EQUAL : Exa Z h a_GREATER_OR_EQUAL "com/example/routinier/routinier/Comparison$Operator") (F_GREATER_OR_EQUAL : Fld Z h a_GREATER_OR_EQUAL "java/lang/Enum" "ordinal" "I" (.int (5 : Int32))) : Con l Z n0 x code maxLocals ret room_1 #[(.int p1), (.int n)] h (fun v _ => v = some (.int 1)) := by
  refine Con.mk (Ls := #[.val (.int p1), .val (.int n), .unset, .unset, .unset, .unset, .unset]) pn_com_example_routinier_routinier_OperatorHoldsPinLaw (ef0_ii p1 n) ?_
  intro p e s m below meth c A hret hlk hnm
  have l_0 : (0 : Int32).toInt = 0 := by decide
  refine Goes.blk A _ b0_0_1 (pc' := 1) (Ls' := #[.val (.int p1), .val (.int n), .unset, .unset, .unset, .unset, .unset]) (st' := [(.int p1)]) rfl ?_
  refine Goes.ldcI A (hw _ (List.mem_of_getElem? (i := 0) rfl)) at_1 ?_
  refine Goes.blk A _ b0_3_2 (pc' := 6) (Ls' := #[.val (.int p1), .val (.int n), .unset, .unset, .unset, .unset, .unset]) (st' := [(.int (6 : Int32)), (.int (p1 &&& (2147483647 : Int32)))]) rfl ?_
  refine Goes.irem A at_6 (by decide) ?_
  rw [r1]
  refine Goes.blk A _ b0_7_2 (pc' := 9) (Ls' := #[.val (.int p1), .val (.int n), .val (.int (2 : Int32)), .unset, .unset, .unset, .unset]) (st' := [(.int (2 : Int32))]) rfl ?_
  refine Goes.static A (hw _ (List.mem_of_getElem? (i := 1) rfl)) (hw _ (List.mem_of_getElem? (i := 2) rfl)) (hw _ (List.mem_of_getElem? (i := 3) rfl)) (hw _ (List.mem_of_getElem? (i := 4) rfl)) at_9 pd_867258 (by decide) (argsL := [(.int (2 : Int32))]) (rest := []) rfl rfl rfl (W := 0) (Nat.le_of_ble_eq_true rfl) (by decide) (by decide) (by decide) (by decide) (kp2 l Z n0 a0 hw h a_LESS S_LESS) (fun v hq hh => ?_)
  obtain ⟨rfl, rfl⟩ := hh
  show Goes p l e _ s m _ below meth c n0 _ h 0 0 12 #[.val (.int p1), .val (.int n), .val (.int (2 : Int32)), .unset, .unset, .unset, .unset] [(.ref a_LESS)]
  refine Goes.blk A _ b0_12_2 (pc' := 14) (Ls' := #[.val (.int p1), .val (.int n), .val (.int (2 : Int32)), .val (.ref a_LESS), .unset, .unset, .unset]) (st' := [(.int (2 : Int32))]) rfl ?_
  refine Goes.static A (hw _ (List.mem_of_getElem? (i := 8) rfl)) (hw _ (List.mem_of_getElem? (i := 9) rfl)) (hw _ (List.mem_of_getElem? (i := 3) rfl)) (hw _ (List.mem_of_getElem? (i := 10) rfl)) at_14 pd_727763 (by decide) (argsL := [(.int (2 : Int32))]) (rest := []) rfl rfl rfl (W := 0) (Nat.le_of_ble_eq_true rfl) (by decide) (by decide) (by decide) (by decide) (km2 l Z n0 a0 hw h) (fun v hq hh => ?_)
  obtain ⟨rfl, rfl⟩ := hh
  show Goes p l e _ s m _ below meth c n0 _ h 0 0 17 #[.val (.int p1), .val (.int n), .val (.int (2 : Int32)), .val (.ref a_LESS), .unset, .unset, .unset] [(.int (1 : Int32))]
  refine Goes.blk A _ b0_17_2 (pc' := 20) (Ls' := #[.val (.int p1), .val (.int n), .val (.int (2 : Int32)), .val (.ref a_LESS), .val (.int (1 : Int32)), .unset, .unset]) (st' := [(.int n)]) rfl ?_
  refine Goes.if1 A at_20 (by decide) (pc' := 27) (by decide) (fun hc1 => ?_) (fun hc => (by have q9 := cP_nint hc; simp only [cI] at q9; omega))
  refine Goes.blk A _ b0_27_1 (pc' := 28) (Ls' := #[.val (.int p1), .val (.int n), .val (.int (2 : Int32)), .val (.ref a_LESS), .val (.int (1 : Int32)), .unset, .unset]) (st' := [(.int n)]) rfl ?_
  refine Goes.if1 A at_28 (by decide) (pc' := 35) (by decide) (fun hc2 => ?_) (fun hc => (by have q9 := cP_nint hc; simp only [cI] at q9; omega))
  refine Goes.blk A _ b0_35_7 (pc' := 45) (Ls' := #[.val (.int p1), .val (.int n), .val (.int (2 : Int32)), .val (.ref a_LESS), .val (.int (1 : Int32)), .val (.int (2 : Int32)), .unset]) (st' := [(.int (((1 : Int32) >>> ((2 : Int32) &&& 31)) &&& (1 : Int32)))]) rfl ?_
  refine Goes.if1 A at_45 (by decide) (pc' := 52) (by decide) (fun hc3 => ?_) (fun hc => absurd (cP_t (by decide)) hc)
  refine Goes.blk A _ b0_52_4 (pc' := 57) (Ls' := #[.val (.int p1), .val (.int n), .val (.int (2 : Int32)), .val (.ref a_LESS), .val (.int (1 : Int32)), .val (.int (2 : Int32)), .val (.int (0 : Int32))]) (st' := [(.int n), (.ref a_LESS)]) rfl ?_
  refine Goes.virt A (hw _ (List.mem_of_getElem? (i := 11) rfl)) (hw _ (List.mem_of_getElem? (i := 12) rfl)) (hw _ (List.mem_of_getElem? (i := 14) rfl)) (hw _ (List.mem_of_getElem? (i := 14) rfl)) (hw _ (List.mem_of_getElem? (i := 13) rfl)) (hw _ (List.mem_of_getElem? (i := 6) rfl)) (hw _ (List.mem_of_getElem? (i := 15) rfl)) at_57 pd_727780 (by decide) E_LESS (argsL := [(.int n)]) (rest := []) rfl rfl rfl (W := 0) (Nat.le_of_ble_eq_true rfl) (by decide) (by decide) (by decide) (by decide) (kh2p l Z n0 a0 hw h n hn a_LESS E_LESS F_LESS) (fun v hq hh => ?_)
  obtain ⟨rfl, rfl⟩ := hh
  show Goes p l e _ s m _ below meth c n0 _ h 0 0 60 #[.val (.int p1), .val (.int n), .val (.int (2 : Int32)), .val (.ref a_LESS), .val (.int (1 : Int32)), .val (.int (2 : Int32)), .val (.int (0 : Int32))] [(.int (0 : Int32))]
  refine Goes.blk A _ b0_60_1 (pc' := 62) (Ls' := #[.val (.int p1), .val (.int n), .val (.int (2 : Int32)), .val (.ref a_LESS), .val (.int (1 : Int32)), .val (.int (2 : Int32)), .val (.int (0 : Int32))]) (st' := [(.int (0 : Int32)), (.int (0 : Int32))]) rfl ?_
  refine Goes.if2 A at_62 (by decide) (pc' := 69) (by decide) (fun hc => absurd hc (cP_f (by decide))) (fun hc4 => ?_)
  refine Goes.blk A _ b0_65_1 (pc' := 66) (Ls' := #[.val (.int p1), .val (.int n), .val (.int (2 : Int32)), .val (.ref a_LESS), .val (.int (1 : Int32)), .val (.int (2 : Int32)), .val (.int (0 : Int32))]) (st' := [(.int (1 : Int32))]) rfl ?_
  refine Goes.jump A at_66 (by decide) (pc' := 70) (by decide) ?_
  exact Goes.retB A hret (by simp) hlk at_70 (z' := 1) (by decide) (by decide) (by decide) rfl
set_option maxRecDepth 65536 in
set_option maxHeartbeats 40000000 in
theorem k0_3m (l : Launch) (Z : State) (n0 : Nat) (a0 : Array Value) (hw : ∀ d ∈ tables_1, d.before a0 Z = true) (h : Heap) (p1 : Int32) (r1 : ((p1 &&& (2147483647 : Int32)) % (6 : Int32)) = (3 : Int32)) (n : Int32) (hn : n.toInt < 0) (a_EQUALS : Addr) (S_EQUALS : Sta Z h "com/example/routinier/routinier/Comparison$Operator" "EQUALS" "Lcom/example/routinier/routinier/Comparison$Operator;" (.ref a_EQUALS)) (E_EQUALS : Exa Z h a_EQUALS "com/example/routinier/routinier/Comparison$Operator") (F_EQUALS : Fld Z h a_EQUALS "java/lang/Enum" "ordinal" "I" (.int (0 : Int32))) (a_NOT_EQUALS : Addr) (S_NOT_EQUALS : Sta Z h "com/example/routinier/routinier/Comparison$Operator" "NOT_EQUALS" "Lcom/example/routinier/routinier/Comparison$Operator;" (.ref a_NOT_EQUALS)) (E_NOT_EQUALS : Exa Z h a_NOT_EQUALS "com/example/routinier/routinier/Comparison$Operator") (F_NOT_EQUALS : Fld Z h a_NOT_EQUALS "java/lang/Enum" "ordinal" "I" (.int (1 : Int32))) (a_LESS : Addr) (S_LESS : Sta Z h "com/example/routinier/routinier/Comparison$Operator" "LESS" "Lcom/example/routinier/routinier/Comparison$Operator;" (.ref a_LESS)) (E_LESS : Exa Z h a_LESS "com/example/routinier/routinier/Comparison$Operator") (F_LESS : Fld Z h a_LESS "java/lang/Enum" "ordinal" "I" (.int (2 : Int32))) (a_LESS_OR_EQUAL : Addr) (S_LESS_OR_EQUAL : Sta Z h "com/example/routinier/routinier/Comparison$Operator" "LESS_OR_EQUAL" "Lcom/example/routinier/routinier/Comparison$Operator;" (.ref a_LESS_OR_EQUAL)) (E_LESS_OR_EQUAL : Exa Z h a_LESS_OR_EQUAL "com/example/routinier/routinier/Comparison$Operator") (F_LESS_OR_EQUAL : Fld Z h a_LESS_OR_EQUAL "java/lang/Enum" "ordinal" "I" (.int (3 : Int32))) (a_GREATER : Addr) (S_GREATER : Sta Z h "com/example/routinier/routinier/Comparison$Operator" "GREATER" "Lcom/example/routinier/routinier/Comparison$Operator;" (.ref a_GREATER)) (E_GREATER : Exa Z h a_GREATER "com/example/routinier/routinier/Comparison$Operator") (F_GREATER : Fld Z h a_GREATER "java/lang/Enum" "ordinal" "I" (.int (4 : Int32))) (a_GREATER_OR_EQUAL : Addr) (S_GREATER_OR_EQUAL : Sta Z h "com/example/routinier/routinier/Comparison$Operator" "GREATER_OR_EQUAL" "Lcom/example/routinier/routinier/Comparison$Operator;" (.ref a_GREATER_OR_EQUAL)) (E_GREATER_OR_EQUAL : Exa Z h a_GREATER_OR_EQUAL "com/example/routinier/routinier/Comparison$Operator") (F_GREATER_OR_EQUAL : Fld Z h a_GREATER_OR_EQUAL "java/lang/Enum" "ordinal" "I" (.int (5 : Int32))) : Con l Z n0 x code maxLocals ret room_1 #[(.int p1), (.int n)] h (fun v _ => v = some (.int 1)) := by
  refine Con.mk (Ls := #[.val (.int p1), .val (.int n), .unset, .unset, .unset, .unset, .unset]) pn_com_example_routinier_routinier_OperatorHoldsPinLaw (ef0_ii p1 n) ?_
  intro p e s m below meth c A hret hlk hnm
  have l_0 : (0 : Int32).toInt = 0 := by decide
  refine Goes.blk A _ b0_0_1 (pc' := 1) (Ls' := #[.val (.int p1), .val (.int n), .unset, .unset, .unset, .unset, .unset]) (st' := [(.int p1)]) rfl ?_
  refine Goes.ldcI A (hw _ (List.mem_of_getElem? (i := 0) rfl)) at_1 ?_
  refine Goes.blk A _ b0_3_2 (pc' := 6) (Ls' := #[.val (.int p1), .val (.int n), .unset, .unset, .unset, .unset, .unset]) (st' := [(.int (6 : Int32)), (.int (p1 &&& (2147483647 : Int32)))]) rfl ?_
  refine Goes.irem A at_6 (by decide) ?_
  rw [r1]
  refine Goes.blk A _ b0_7_2 (pc' := 9) (Ls' := #[.val (.int p1), .val (.int n), .val (.int (3 : Int32)), .unset, .unset, .unset, .unset]) (st' := [(.int (3 : Int32))]) rfl ?_
  refine Goes.static A (hw _ (List.mem_of_getElem? (i := 1) rfl)) (hw _ (List.mem_of_getElem? (i := 2) rfl)) (hw _ (List.mem_of_getElem? (i := 3) rfl)) (hw _ (List.mem_of_getElem? (i := 4) rfl)) at_9 pd_867258 (by decide) (argsL := [(.int (3 : Int32))]) (rest := []) rfl rfl rfl (W := 0) (Nat.le_of_ble_eq_true rfl) (by decide) (by decide) (by decide) (by decide) (kp3 l Z n0 a0 hw h a_LESS_OR_EQUAL S_LESS_OR_EQUAL) (fun v hq hh => ?_)
  obtain ⟨rfl, rfl⟩ := hh
  show Goes p l e _ s m _ below meth c n0 _ h 0 0 12 #[.val (.int p1), .val (.int n), .val (.int (3 : Int32)), .unset, .unset, .unset, .unset] [(.ref a_LESS_OR_EQUAL)]
  refine Goes.blk A _ b0_12_2 (pc' := 14) (Ls' := #[.val (.int p1), .val (.int n), .val (.int (3 : Int32)), .val (.ref a_LESS_OR_EQUAL), .unset, .unset, .unset]) (st' := [(.int (3 : Int32))]) rfl ?_
  refine Goes.static A (hw _ (List.mem_of_getElem? (i := 8) rfl)) (hw _ (List.mem_of_getElem? (i := 9) rfl)) (hw _ (List.mem_of_getElem? (i := 3) rfl)) (hw _ (List.mem_of_getElem? (i := 10) rfl)) at_14 pd_727763 (by decide) (argsL := [(.int (3 : Int32))]) (rest := []) rfl rfl rfl (W := 0) (Nat.le_of_ble_eq_true rfl) (by decide) (by decide) (by decide) (by decide) (km3 l Z n0 a0 hw h) (fun v hq hh => ?_)
  obtain ⟨rfl, rfl⟩ := hh
  show Goes p l e _ s m _ below meth c n0 _ h 0 0 17 #[.val (.int p1), .val (.int n), .val (.int (3 : Int32)), .val (.ref a_LESS_OR_EQUAL), .unset, .unset, .unset] [(.int (3 : Int32))]
  refine Goes.blk A _ b0_17_2 (pc' := 20) (Ls' := #[.val (.int p1), .val (.int n), .val (.int (3 : Int32)), .val (.ref a_LESS_OR_EQUAL), .val (.int (3 : Int32)), .unset, .unset]) (st' := [(.int n)]) rfl ?_
  refine Goes.if1 A at_20 (by decide) (pc' := 27) (by decide) (fun hc => (by have q9 := cP_int hc; simp only [cI] at q9; omega)) (fun hc1 => ?_)
  refine Goes.blk A _ b0_23_1 (pc' := 24) (Ls' := #[.val (.int p1), .val (.int n), .val (.int (3 : Int32)), .val (.ref a_LESS_OR_EQUAL), .val (.int (3 : Int32)), .unset, .unset]) (st' := [(.int (0 : Int32))]) rfl ?_
  refine Goes.jump A at_24 (by decide) (pc' := 36) (by decide) ?_
  refine Goes.blk A _ b0_36_6 (pc' := 45) (Ls' := #[.val (.int p1), .val (.int n), .val (.int (3 : Int32)), .val (.ref a_LESS_OR_EQUAL), .val (.int (3 : Int32)), .val (.int (0 : Int32)), .unset]) (st' := [(.int (((3 : Int32) >>> ((0 : Int32) &&& 31)) &&& (1 : Int32)))]) rfl ?_
  refine Goes.if1 A at_45 (by decide) (pc' := 52) (by decide) (fun hc => absurd hc (cP_f (by decide))) (fun hc2 => ?_)
  refine Goes.blk A _ b0_48_1 (pc' := 49) (Ls' := #[.val (.int p1), .val (.int n), .val (.int (3 : Int32)), .val (.ref a_LESS_OR_EQUAL), .val (.int (3 : Int32)), .val (.int (0 : Int32)), .unset]) (st' := [(.int (1 : Int32))]) rfl ?_
  refine Goes.jump A at_49 (by decide) (pc' := 53) (by decide) ?_
  refine Goes.blk A _ b0_53_3 (pc' := 57) (Ls' := #[.val (.int p1), .val (.int n), .val (.int (3 : Int32)), .val (.ref a_LESS_OR_EQUAL), .val (.int (3 : Int32)), .val (.int (0 : Int32)), .val (.int (1 : Int32))]) (st' := [(.int n), (.ref a_LESS_OR_EQUAL)]) rfl ?_
  refine Goes.virt A (hw _ (List.mem_of_getElem? (i := 11) rfl)) (hw _ (List.mem_of_getElem? (i := 12) rfl)) (hw _ (List.mem_of_getElem? (i := 14) rfl)) (hw _ (List.mem_of_getElem? (i := 14) rfl)) (hw _ (List.mem_of_getElem? (i := 13) rfl)) (hw _ (List.mem_of_getElem? (i := 6) rfl)) (hw _ (List.mem_of_getElem? (i := 15) rfl)) at_57 pd_727780 (by decide) E_LESS_OR_EQUAL (argsL := [(.int n)]) (rest := []) rfl rfl rfl (W := 0) (Nat.le_of_ble_eq_true rfl) (by decide) (by decide) (by decide) (by decide) (kh3m l Z n0 a0 hw h n hn a_LESS_OR_EQUAL E_LESS_OR_EQUAL F_LESS_OR_EQUAL) (fun v hq hh => ?_)
  obtain ⟨rfl, rfl⟩ := hh
  show Goes p l e _ s m _ below meth c n0 _ h 0 0 60 #[.val (.int p1), .val (.int n), .val (.int (3 : Int32)), .val (.ref a_LESS_OR_EQUAL), .val (.int (3 : Int32)), .val (.int (0 : Int32)), .val (.int (1 : Int32))] [(.int (1 : Int32))]
  refine Goes.blk A _ b0_60_1 (pc' := 62) (Ls' := #[.val (.int p1), .val (.int n), .val (.int (3 : Int32)), .val (.ref a_LESS_OR_EQUAL), .val (.int (3 : Int32)), .val (.int (0 : Int32)), .val (.int (1 : Int32))]) (st' := [(.int (1 : Int32)), (.int (1 : Int32))]) rfl ?_
  refine Goes.if2 A at_62 (by decide) (pc' := 69) (by decide) (fun hc => absurd hc (cP_f (by decide))) (fun hc3 => ?_)
  refine Goes.blk A _ b0_65_1 (pc' := 66) (Ls' := #[.val (.int p1), .val (.int n), .val (.int (3 : Int32)), .val (.ref a_LESS_OR_EQUAL), .val (.int (3 : Int32)), .val (.int (0 : Int32)), .val (.int (1 : Int32))]) (st' := [(.int (1 : Int32))]) rfl ?_
  refine Goes.jump A at_66 (by decide) (pc' := 70) (by decide) ?_
  exact Goes.retB A hret (by simp) hlk at_70 (z' := 1) (by decide) (by decide) (by decide) rfl
set_option maxRecDepth 65536 in
set_option maxHeartbeats 40000000 in
theorem k0_30 (l : Launch) (Z : State) (n0 : Nat) (a0 : Array Value) (hw : ∀ d ∈ tables_1, d.before a0 Z = true) (h : Heap) (p1 : Int32) (r1 : ((p1 &&& (2147483647 : Int32)) % (6 : Int32)) = (3 : Int32)) (a_EQUALS : Addr) (S_EQUALS : Sta Z h "com/example/routinier/routinier/Comparison$Operator" "EQUALS" "Lcom/example/routinier/routinier/Comparison$Operator;" (.ref a_EQUALS)) (E_EQUALS : Exa Z h a_EQUALS "com/example/routinier/routinier/Comparison$Operator") (F_EQUALS : Fld Z h a_EQUALS "java/lang/Enum" "ordinal" "I" (.int (0 : Int32))) (a_NOT_EQUALS : Addr) (S_NOT_EQUALS : Sta Z h "com/example/routinier/routinier/Comparison$Operator" "NOT_EQUALS" "Lcom/example/routinier/routinier/Comparison$Operator;" (.ref a_NOT_EQUALS)) (E_NOT_EQUALS : Exa Z h a_NOT_EQUALS "com/example/routinier/routinier/Comparison$Operator") (F_NOT_EQUALS : Fld Z h a_NOT_EQUALS "java/lang/Enum" "ordinal" "I" (.int (1 : Int32))) (a_LESS : Addr) (S_LESS : Sta Z h "com/example/routinier/routinier/Comparison$Operator" "LESS" "Lcom/example/routinier/routinier/Comparison$Operator;" (.ref a_LESS)) (E_LESS : Exa Z h a_LESS "com/example/routinier/routinier/Comparison$Operator") (F_LESS : Fld Z h a_LESS "java/lang/Enum" "ordinal" "I" (.int (2 : Int32))) (a_LESS_OR_EQUAL : Addr) (S_LESS_OR_EQUAL : Sta Z h "com/example/routinier/routinier/Comparison$Operator" "LESS_OR_EQUAL" "Lcom/example/routinier/routinier/Comparison$Operator;" (.ref a_LESS_OR_EQUAL)) (E_LESS_OR_EQUAL : Exa Z h a_LESS_OR_EQUAL "com/example/routinier/routinier/Comparison$Operator") (F_LESS_OR_EQUAL : Fld Z h a_LESS_OR_EQUAL "java/lang/Enum" "ordinal" "I" (.int (3 : Int32))) (a_GREATER : Addr) (S_GREATER : Sta Z h "com/example/routinier/routinier/Comparison$Operator" "GREATER" "Lcom/example/routinier/routinier/Comparison$Operator;" (.ref a_GREATER)) (E_GREATER : Exa Z h a_GREATER "com/example/routinier/routinier/Comparison$Operator") (F_GREATER : Fld Z h a_GREATER "java/lang/Enum" "ordinal" "I" (.int (4 : Int32))) (a_GREATER_OR_EQUAL : Addr) (S_GREATER_OR_EQUAL : Sta Z h "com/example/routinier/routinier/Comparison$Operator" "GREATER_OR_EQUAL" "Lcom/example/routinier/routinier/Comparison$Operator;" (.ref a_GREATER_OR_EQUAL)) (E_GREATER_OR_EQUAL : Exa Z h a_GREATER_OR_EQUAL "com/example/routinier/routinier/Comparison$Operator") (F_GREATER_OR_EQUAL : Fld Z h a_GREATER_OR_EQUAL "java/lang/Enum" "ordinal" "I" (.int (5 : Int32))) : Con l Z n0 x code maxLocals ret room_1 #[(.int p1), (.int (0 : Int32))] h (fun v _ => v = some (.int 1)) := by
  refine Con.mk (Ls := #[.val (.int p1), .val (.int (0 : Int32)), .unset, .unset, .unset, .unset, .unset]) pn_com_example_routinier_routinier_OperatorHoldsPinLaw (ef0_ii p1 (0 : Int32)) ?_
  intro p e s m below meth c A hret hlk hnm
  have l_0 : (0 : Int32).toInt = 0 := by decide
  refine Goes.blk A _ b0_0_1 (pc' := 1) (Ls' := #[.val (.int p1), .val (.int (0 : Int32)), .unset, .unset, .unset, .unset, .unset]) (st' := [(.int p1)]) rfl ?_
  refine Goes.ldcI A (hw _ (List.mem_of_getElem? (i := 0) rfl)) at_1 ?_
  refine Goes.blk A _ b0_3_2 (pc' := 6) (Ls' := #[.val (.int p1), .val (.int (0 : Int32)), .unset, .unset, .unset, .unset, .unset]) (st' := [(.int (6 : Int32)), (.int (p1 &&& (2147483647 : Int32)))]) rfl ?_
  refine Goes.irem A at_6 (by decide) ?_
  rw [r1]
  refine Goes.blk A _ b0_7_2 (pc' := 9) (Ls' := #[.val (.int p1), .val (.int (0 : Int32)), .val (.int (3 : Int32)), .unset, .unset, .unset, .unset]) (st' := [(.int (3 : Int32))]) rfl ?_
  refine Goes.static A (hw _ (List.mem_of_getElem? (i := 1) rfl)) (hw _ (List.mem_of_getElem? (i := 2) rfl)) (hw _ (List.mem_of_getElem? (i := 3) rfl)) (hw _ (List.mem_of_getElem? (i := 4) rfl)) at_9 pd_867258 (by decide) (argsL := [(.int (3 : Int32))]) (rest := []) rfl rfl rfl (W := 0) (Nat.le_of_ble_eq_true rfl) (by decide) (by decide) (by decide) (by decide) (kp3 l Z n0 a0 hw h a_LESS_OR_EQUAL S_LESS_OR_EQUAL) (fun v hq hh => ?_)
  obtain ⟨rfl, rfl⟩ := hh
  show Goes p l e _ s m _ below meth c n0 _ h 0 0 12 #[.val (.int p1), .val (.int (0 : Int32)), .val (.int (3 : Int32)), .unset, .unset, .unset, .unset] [(.ref a_LESS_OR_EQUAL)]
  refine Goes.blk A _ b0_12_2 (pc' := 14) (Ls' := #[.val (.int p1), .val (.int (0 : Int32)), .val (.int (3 : Int32)), .val (.ref a_LESS_OR_EQUAL), .unset, .unset, .unset]) (st' := [(.int (3 : Int32))]) rfl ?_
  refine Goes.static A (hw _ (List.mem_of_getElem? (i := 8) rfl)) (hw _ (List.mem_of_getElem? (i := 9) rfl)) (hw _ (List.mem_of_getElem? (i := 3) rfl)) (hw _ (List.mem_of_getElem? (i := 10) rfl)) at_14 pd_727763 (by decide) (argsL := [(.int (3 : Int32))]) (rest := []) rfl rfl rfl (W := 0) (Nat.le_of_ble_eq_true rfl) (by decide) (by decide) (by decide) (by decide) (km3 l Z n0 a0 hw h) (fun v hq hh => ?_)
  obtain ⟨rfl, rfl⟩ := hh
  show Goes p l e _ s m _ below meth c n0 _ h 0 0 17 #[.val (.int p1), .val (.int (0 : Int32)), .val (.int (3 : Int32)), .val (.ref a_LESS_OR_EQUAL), .unset, .unset, .unset] [(.int (3 : Int32))]
  refine Goes.blk A _ b0_17_2 (pc' := 20) (Ls' := #[.val (.int p1), .val (.int (0 : Int32)), .val (.int (3 : Int32)), .val (.ref a_LESS_OR_EQUAL), .val (.int (3 : Int32)), .unset, .unset]) (st' := [(.int (0 : Int32))]) rfl ?_
  refine Goes.if1 A at_20 (by decide) (pc' := 27) (by decide) (fun hc1 => ?_) (fun hc => absurd (cP_t (by decide)) hc)
  refine Goes.blk A _ b0_27_1 (pc' := 28) (Ls' := #[.val (.int p1), .val (.int (0 : Int32)), .val (.int (3 : Int32)), .val (.ref a_LESS_OR_EQUAL), .val (.int (3 : Int32)), .unset, .unset]) (st' := [(.int (0 : Int32))]) rfl ?_
  refine Goes.if1 A at_28 (by decide) (pc' := 35) (by decide) (fun hc => absurd hc (cP_f (by decide))) (fun hc2 => ?_)
  refine Goes.blk A _ b0_31_1 (pc' := 32) (Ls' := #[.val (.int p1), .val (.int (0 : Int32)), .val (.int (3 : Int32)), .val (.ref a_LESS_OR_EQUAL), .val (.int (3 : Int32)), .unset, .unset]) (st' := [(.int (1 : Int32))]) rfl ?_
  refine Goes.jump A at_32 (by decide) (pc' := 36) (by decide) ?_
  refine Goes.blk A _ b0_36_6 (pc' := 45) (Ls' := #[.val (.int p1), .val (.int (0 : Int32)), .val (.int (3 : Int32)), .val (.ref a_LESS_OR_EQUAL), .val (.int (3 : Int32)), .val (.int (1 : Int32)), .unset]) (st' := [(.int (((3 : Int32) >>> ((1 : Int32) &&& 31)) &&& (1 : Int32)))]) rfl ?_
  refine Goes.if1 A at_45 (by decide) (pc' := 52) (by decide) (fun hc => absurd hc (cP_f (by decide))) (fun hc3 => ?_)
  refine Goes.blk A _ b0_48_1 (pc' := 49) (Ls' := #[.val (.int p1), .val (.int (0 : Int32)), .val (.int (3 : Int32)), .val (.ref a_LESS_OR_EQUAL), .val (.int (3 : Int32)), .val (.int (1 : Int32)), .unset]) (st' := [(.int (1 : Int32))]) rfl ?_
  refine Goes.jump A at_49 (by decide) (pc' := 53) (by decide) ?_
  refine Goes.blk A _ b0_53_3 (pc' := 57) (Ls' := #[.val (.int p1), .val (.int (0 : Int32)), .val (.int (3 : Int32)), .val (.ref a_LESS_OR_EQUAL), .val (.int (3 : Int32)), .val (.int (1 : Int32)), .val (.int (1 : Int32))]) (st' := [(.int (0 : Int32)), (.ref a_LESS_OR_EQUAL)]) rfl ?_
  refine Goes.virt A (hw _ (List.mem_of_getElem? (i := 11) rfl)) (hw _ (List.mem_of_getElem? (i := 12) rfl)) (hw _ (List.mem_of_getElem? (i := 14) rfl)) (hw _ (List.mem_of_getElem? (i := 14) rfl)) (hw _ (List.mem_of_getElem? (i := 13) rfl)) (hw _ (List.mem_of_getElem? (i := 6) rfl)) (hw _ (List.mem_of_getElem? (i := 15) rfl)) at_57 pd_727780 (by decide) E_LESS_OR_EQUAL (argsL := [(.int (0 : Int32))]) (rest := []) rfl rfl rfl (W := 0) (Nat.le_of_ble_eq_true rfl) (by decide) (by decide) (by decide) (by decide) (kh30 l Z n0 a0 hw h a_LESS_OR_EQUAL E_LESS_OR_EQUAL F_LESS_OR_EQUAL) (fun v hq hh => ?_)
  obtain ⟨rfl, rfl⟩ := hh
  show Goes p l e _ s m _ below meth c n0 _ h 0 0 60 #[.val (.int p1), .val (.int (0 : Int32)), .val (.int (3 : Int32)), .val (.ref a_LESS_OR_EQUAL), .val (.int (3 : Int32)), .val (.int (1 : Int32)), .val (.int (1 : Int32))] [(.int (1 : Int32))]
  refine Goes.blk A _ b0_60_1 (pc' := 62) (Ls' := #[.val (.int p1), .val (.int (0 : Int32)), .val (.int (3 : Int32)), .val (.ref a_LESS_OR_EQUAL), .val (.int (3 : Int32)), .val (.int (1 : Int32)), .val (.int (1 : Int32))]) (st' := [(.int (1 : Int32)), (.int (1 : Int32))]) rfl ?_
  refine Goes.if2 A at_62 (by decide) (pc' := 69) (by decide) (fun hc => absurd hc (cP_f (by decide))) (fun hc4 => ?_)
  refine Goes.blk A _ b0_65_1 (pc' := 66) (Ls' := #[.val (.int p1), .val (.int (0 : Int32)), .val (.int (3 : Int32)), .val (.ref a_LESS_OR_EQUAL), .val (.int (3 : Int32)), .val (.int (1 : Int32)), .val (.int (1 : Int32))]) (st' := [(.int (1 : Int32))]) rfl ?_
  refine Goes.jump A at_66 (by decide) (pc' := 70) (by decide) ?_
  exact Goes.retB A hret (by simp) hlk at_70 (z' := 1) (by decide) (by decide) (by decide) rfl
set_option maxRecDepth 65536 in
set_option maxHeartbeats 40000000 in
theorem k0_3p (l : Launch) (Z : State) (n0 : Nat) (a0 : Array Value) (hw : ∀ d ∈ tables_1, d.before a0 Z = true) (h : Heap) (p1 : Int32) (r1 : ((p1 &&& (2147483647 : Int32)) % (6 : Int32)) = (3 : Int32)) (n : Int32) (hn : 0 < n.toInt) (a_EQUALS : Addr) (S_EQUALS : Sta Z h "com/example/routinier/routinier/Comparison$Operator" "EQUALS" "Lcom/example/routinier/routinier/Comparison$Operator;" (.ref a_EQUALS)) (E_EQUALS : Exa Z h a_EQUALS "com/example/routinier/routinier/Comparison$Operator") (F_EQUALS : Fld Z h a_EQUALS "java/lang/Enum" "ordinal" "I" (.int (0 : Int32))) (a_NOT_EQUALS : Addr) (S_NOT_EQUALS : Sta Z h "com/example/routinier/routinier/Comparison$Operator" "NOT_EQUALS" "Lcom/example/routinier/routinier/Comparison$Operator;" (.ref a_NOT_EQUALS)) (E_NOT_EQUALS : Exa Z h a_NOT_EQUALS "com/example/routinier/routinier/Comparison$Operator") (F_NOT_EQUALS : Fld Z h a_NOT_EQUALS "java/lang/Enum" "ordinal" "I" (.int (1 : Int32))) (a_LESS : Addr) (S_LESS : Sta Z h "com/example/routinier/routinier/Comparison$Operator" "LESS" "Lcom/example/routinier/routinier/Comparison$Operator;" (.ref a_LESS)) (E_LESS : Exa Z h a_LESS "com/example/routinier/routinier/Comparison$Operator") (F_LESS : Fld Z h a_LESS "java/lang/Enum" "ordinal" "I" (.int (2 : Int32))) (a_LESS_OR_EQUAL : Addr) (S_LESS_OR_EQUAL : Sta Z h "com/example/routinier/routinier/Comparison$Operator" "LESS_OR_EQUAL" "Lcom/example/routinier/routinier/Comparison$Operator;" (.ref a_LESS_OR_EQUAL)) (E_LESS_OR_EQUAL : Exa Z h a_LESS_OR_EQUAL "com/example/routinier/routinier/Comparison$Operator") (F_LESS_OR_EQUAL : Fld Z h a_LESS_OR_EQUAL "java/lang/Enum" "ordinal" "I" (.int (3 : Int32))) (a_GREATER : Addr) (S_GREATER : Sta Z h "com/example/routinier/routinier/Comparison$Operator" "GREATER" "Lcom/example/routinier/routinier/Comparison$Operator;" (.ref a_GREATER)) (E_GREATER : Exa Z h a_GREATER "com/example/routinier/routinier/Comparison$Operator") (F_GREATER : Fld Z h a_GREATER "java/lang/Enum" "ordinal" "I" (.int (4 : Int32))) (a_GREATER_OR_EQUAL : Addr) (S_GREATER_OR_EQUAL : Sta Z h "com/example/routinier/routinier/Comparison$Operator" "GREATER_OR_EQUAL" "Lcom/example/routinier/routinier/Comparison$Operator;" (.ref a_GREATER_OR_EQUAL)) (E_GREATER_OR_EQUAL : Exa Z h a_GREATER_OR_EQUAL "com/example/routinier/routinier/Comparison$Operator") (F_GREATER_OR_EQUAL : Fld Z h a_GREATER_OR_EQUAL "java/lang/Enum" "ordinal" "I" (.int (5 : Int32))) : Con l Z n0 x code maxLocals ret room_1 #[(.int p1), (.int n)] h (fun v _ => v = some (.int 1)) := by
  refine Con.mk (Ls := #[.val (.int p1), .val (.int n), .unset, .unset, .unset, .unset, .unset]) pn_com_example_routinier_routinier_OperatorHoldsPinLaw (ef0_ii p1 n) ?_
  intro p e s m below meth c A hret hlk hnm
  have l_0 : (0 : Int32).toInt = 0 := by decide
  refine Goes.blk A _ b0_0_1 (pc' := 1) (Ls' := #[.val (.int p1), .val (.int n), .unset, .unset, .unset, .unset, .unset]) (st' := [(.int p1)]) rfl ?_
  refine Goes.ldcI A (hw _ (List.mem_of_getElem? (i := 0) rfl)) at_1 ?_
  refine Goes.blk A _ b0_3_2 (pc' := 6) (Ls' := #[.val (.int p1), .val (.int n), .unset, .unset, .unset, .unset, .unset]) (st' := [(.int (6 : Int32)), (.int (p1 &&& (2147483647 : Int32)))]) rfl ?_
  refine Goes.irem A at_6 (by decide) ?_
  rw [r1]
  refine Goes.blk A _ b0_7_2 (pc' := 9) (Ls' := #[.val (.int p1), .val (.int n), .val (.int (3 : Int32)), .unset, .unset, .unset, .unset]) (st' := [(.int (3 : Int32))]) rfl ?_
  refine Goes.static A (hw _ (List.mem_of_getElem? (i := 1) rfl)) (hw _ (List.mem_of_getElem? (i := 2) rfl)) (hw _ (List.mem_of_getElem? (i := 3) rfl)) (hw _ (List.mem_of_getElem? (i := 4) rfl)) at_9 pd_867258 (by decide) (argsL := [(.int (3 : Int32))]) (rest := []) rfl rfl rfl (W := 0) (Nat.le_of_ble_eq_true rfl) (by decide) (by decide) (by decide) (by decide) (kp3 l Z n0 a0 hw h a_LESS_OR_EQUAL S_LESS_OR_EQUAL) (fun v hq hh => ?_)
  obtain ⟨rfl, rfl⟩ := hh
  show Goes p l e _ s m _ below meth c n0 _ h 0 0 12 #[.val (.int p1), .val (.int n), .val (.int (3 : Int32)), .unset, .unset, .unset, .unset] [(.ref a_LESS_OR_EQUAL)]
  refine Goes.blk A _ b0_12_2 (pc' := 14) (Ls' := #[.val (.int p1), .val (.int n), .val (.int (3 : Int32)), .val (.ref a_LESS_OR_EQUAL), .unset, .unset, .unset]) (st' := [(.int (3 : Int32))]) rfl ?_
  refine Goes.static A (hw _ (List.mem_of_getElem? (i := 8) rfl)) (hw _ (List.mem_of_getElem? (i := 9) rfl)) (hw _ (List.mem_of_getElem? (i := 3) rfl)) (hw _ (List.mem_of_getElem? (i := 10) rfl)) at_14 pd_727763 (by decide) (argsL := [(.int (3 : Int32))]) (rest := []) rfl rfl rfl (W := 0) (Nat.le_of_ble_eq_true rfl) (by decide) (by decide) (by decide) (by decide) (km3 l Z n0 a0 hw h) (fun v hq hh => ?_)
  obtain ⟨rfl, rfl⟩ := hh
  show Goes p l e _ s m _ below meth c n0 _ h 0 0 17 #[.val (.int p1), .val (.int n), .val (.int (3 : Int32)), .val (.ref a_LESS_OR_EQUAL), .unset, .unset, .unset] [(.int (3 : Int32))]
  refine Goes.blk A _ b0_17_2 (pc' := 20) (Ls' := #[.val (.int p1), .val (.int n), .val (.int (3 : Int32)), .val (.ref a_LESS_OR_EQUAL), .val (.int (3 : Int32)), .unset, .unset]) (st' := [(.int n)]) rfl ?_
  refine Goes.if1 A at_20 (by decide) (pc' := 27) (by decide) (fun hc1 => ?_) (fun hc => (by have q9 := cP_nint hc; simp only [cI] at q9; omega))
  refine Goes.blk A _ b0_27_1 (pc' := 28) (Ls' := #[.val (.int p1), .val (.int n), .val (.int (3 : Int32)), .val (.ref a_LESS_OR_EQUAL), .val (.int (3 : Int32)), .unset, .unset]) (st' := [(.int n)]) rfl ?_
  refine Goes.if1 A at_28 (by decide) (pc' := 35) (by decide) (fun hc2 => ?_) (fun hc => (by have q9 := cP_nint hc; simp only [cI] at q9; omega))
  refine Goes.blk A _ b0_35_7 (pc' := 45) (Ls' := #[.val (.int p1), .val (.int n), .val (.int (3 : Int32)), .val (.ref a_LESS_OR_EQUAL), .val (.int (3 : Int32)), .val (.int (2 : Int32)), .unset]) (st' := [(.int (((3 : Int32) >>> ((2 : Int32) &&& 31)) &&& (1 : Int32)))]) rfl ?_
  refine Goes.if1 A at_45 (by decide) (pc' := 52) (by decide) (fun hc3 => ?_) (fun hc => absurd (cP_t (by decide)) hc)
  refine Goes.blk A _ b0_52_4 (pc' := 57) (Ls' := #[.val (.int p1), .val (.int n), .val (.int (3 : Int32)), .val (.ref a_LESS_OR_EQUAL), .val (.int (3 : Int32)), .val (.int (2 : Int32)), .val (.int (0 : Int32))]) (st' := [(.int n), (.ref a_LESS_OR_EQUAL)]) rfl ?_
  refine Goes.virt A (hw _ (List.mem_of_getElem? (i := 11) rfl)) (hw _ (List.mem_of_getElem? (i := 12) rfl)) (hw _ (List.mem_of_getElem? (i := 14) rfl)) (hw _ (List.mem_of_getElem? (i := 14) rfl)) (hw _ (List.mem_of_getElem? (i := 13) rfl)) (hw _ (List.mem_of_getElem? (i := 6) rfl)) (hw _ (List.mem_of_getElem? (i := 15) rfl)) at_57 pd_727780 (by decide) E_LESS_OR_EQUAL (argsL := [(.int n)]) (rest := []) rfl rfl rfl (W := 0) (Nat.le_of_ble_eq_true rfl) (by decide) (by decide) (by decide) (by decide) (kh3p l Z n0 a0 hw h n hn a_LESS_OR_EQUAL E_LESS_OR_EQUAL F_LESS_OR_EQUAL) (fun v hq hh => ?_)
  obtain ⟨rfl, rfl⟩ := hh
  show Goes p l e _ s m _ below meth c n0 _ h 0 0 60 #[.val (.int p1), .val (.int n), .val (.int (3 : Int32)), .val (.ref a_LESS_OR_EQUAL), .val (.int (3 : Int32)), .val (.int (2 : Int32)), .val (.int (0 : Int32))] [(.int (0 : Int32))]
  refine Goes.blk A _ b0_60_1 (pc' := 62) (Ls' := #[.val (.int p1), .val (.int n), .val (.int (3 : Int32)), .val (.ref a_LESS_OR_EQUAL), .val (.int (3 : Int32)), .val (.int (2 : Int32)), .val (.int (0 : Int32))]) (st' := [(.int (0 : Int32)), (.int (0 : Int32))]) rfl ?_
  refine Goes.if2 A at_62 (by decide) (pc' := 69) (by decide) (fun hc => absurd hc (cP_f (by decide))) (fun hc4 => ?_)
  refine Goes.blk A _ b0_65_1 (pc' := 66) (Ls' := #[.val (.int p1), .val (.int n), .val (.int (3 : Int32)), .val (.ref a_LESS_OR_EQUAL), .val (.int (3 : Int32)), .val (.int (2 : Int32)), .val (.int (0 : Int32))]) (st' := [(.int (1 : Int32))]) rfl ?_
  refine Goes.jump A at_66 (by decide) (pc' := 70) (by decide) ?_
  exact Goes.retB A hret (by simp) hlk at_70 (z' := 1) (by decide) (by decide) (by decide) rfl
set_option maxRecDepth 65536 in
set_option maxHeartbeats 40000000 in
theorem k0_4m (l : Launch) (Z : State) (n0 : Nat) (a0 : Array Value) (hw : ∀ d ∈ tables_1, d.before a0 Z = true) (h : Heap) (p1 : Int32) (r1 : ((p1 &&& (2147483647 : Int32)) % (6 : Int32)) = (4 : Int32)) (n : Int32) (hn : n.toInt < 0) (a_EQUALS : Addr) (S_EQUALS : Sta Z h "com/example/routinier/routinier/Comparison$Operator" "EQUALS" "Lcom/example/routinier/routinier/Comparison$Operator;" (.ref a_EQUALS)) (E_EQUALS : Exa Z h a_EQUALS "com/example/routinier/routinier/Comparison$Operator") (F_EQUALS : Fld Z h a_EQUALS "java/lang/Enum" "ordinal" "I" (.int (0 : Int32))) (a_NOT_EQUALS : Addr) (S_NOT_EQUALS : Sta Z h "com/example/routinier/routinier/Comparison$Operator" "NOT_EQUALS" "Lcom/example/routinier/routinier/Comparison$Operator;" (.ref a_NOT_EQUALS)) (E_NOT_EQUALS : Exa Z h a_NOT_EQUALS "com/example/routinier/routinier/Comparison$Operator") (F_NOT_EQUALS : Fld Z h a_NOT_EQUALS "java/lang/Enum" "ordinal" "I" (.int (1 : Int32))) (a_LESS : Addr) (S_LESS : Sta Z h "com/example/routinier/routinier/Comparison$Operator" "LESS" "Lcom/example/routinier/routinier/Comparison$Operator;" (.ref a_LESS)) (E_LESS : Exa Z h a_LESS "com/example/routinier/routinier/Comparison$Operator") (F_LESS : Fld Z h a_LESS "java/lang/Enum" "ordinal" "I" (.int (2 : Int32))) (a_LESS_OR_EQUAL : Addr) (S_LESS_OR_EQUAL : Sta Z h "com/example/routinier/routinier/Comparison$Operator" "LESS_OR_EQUAL" "Lcom/example/routinier/routinier/Comparison$Operator;" (.ref a_LESS_OR_EQUAL)) (E_LESS_OR_EQUAL : Exa Z h a_LESS_OR_EQUAL "com/example/routinier/routinier/Comparison$Operator") (F_LESS_OR_EQUAL : Fld Z h a_LESS_OR_EQUAL "java/lang/Enum" "ordinal" "I" (.int (3 : Int32))) (a_GREATER : Addr) (S_GREATER : Sta Z h "com/example/routinier/routinier/Comparison$Operator" "GREATER" "Lcom/example/routinier/routinier/Comparison$Operator;" (.ref a_GREATER)) (E_GREATER : Exa Z h a_GREATER "com/example/routinier/routinier/Comparison$Operator") (F_GREATER : Fld Z h a_GREATER "java/lang/Enum" "ordinal" "I" (.int (4 : Int32))) (a_GREATER_OR_EQUAL : Addr) (S_GREATER_OR_EQUAL : Sta Z h "com/example/routinier/routinier/Comparison$Operator" "GREATER_OR_EQUAL" "Lcom/example/routinier/routinier/Comparison$Operator;" (.ref a_GREATER_OR_EQUAL)) (E_GREATER_OR_EQUAL : Exa Z h a_GREATER_OR_EQUAL "com/example/routinier/routinier/Comparison$Operator") (F_GREATER_OR_EQUAL : Fld Z h a_GREATER_OR_EQUAL "java/lang/Enum" "ordinal" "I" (.int (5 : Int32))) : Con l Z n0 x code maxLocals ret room_1 #[(.int p1), (.int n)] h (fun v _ => v = some (.int 1)) := by
  refine Con.mk (Ls := #[.val (.int p1), .val (.int n), .unset, .unset, .unset, .unset, .unset]) pn_com_example_routinier_routinier_OperatorHoldsPinLaw (ef0_ii p1 n) ?_
  intro p e s m below meth c A hret hlk hnm
  have l_0 : (0 : Int32).toInt = 0 := by decide
  refine Goes.blk A _ b0_0_1 (pc' := 1) (Ls' := #[.val (.int p1), .val (.int n), .unset, .unset, .unset, .unset, .unset]) (st' := [(.int p1)]) rfl ?_
  refine Goes.ldcI A (hw _ (List.mem_of_getElem? (i := 0) rfl)) at_1 ?_
  refine Goes.blk A _ b0_3_2 (pc' := 6) (Ls' := #[.val (.int p1), .val (.int n), .unset, .unset, .unset, .unset, .unset]) (st' := [(.int (6 : Int32)), (.int (p1 &&& (2147483647 : Int32)))]) rfl ?_
  refine Goes.irem A at_6 (by decide) ?_
  rw [r1]
  refine Goes.blk A _ b0_7_2 (pc' := 9) (Ls' := #[.val (.int p1), .val (.int n), .val (.int (4 : Int32)), .unset, .unset, .unset, .unset]) (st' := [(.int (4 : Int32))]) rfl ?_
  refine Goes.static A (hw _ (List.mem_of_getElem? (i := 1) rfl)) (hw _ (List.mem_of_getElem? (i := 2) rfl)) (hw _ (List.mem_of_getElem? (i := 3) rfl)) (hw _ (List.mem_of_getElem? (i := 4) rfl)) at_9 pd_867258 (by decide) (argsL := [(.int (4 : Int32))]) (rest := []) rfl rfl rfl (W := 0) (Nat.le_of_ble_eq_true rfl) (by decide) (by decide) (by decide) (by decide) (kp4 l Z n0 a0 hw h a_GREATER S_GREATER) (fun v hq hh => ?_)
  obtain ⟨rfl, rfl⟩ := hh
  show Goes p l e _ s m _ below meth c n0 _ h 0 0 12 #[.val (.int p1), .val (.int n), .val (.int (4 : Int32)), .unset, .unset, .unset, .unset] [(.ref a_GREATER)]
  refine Goes.blk A _ b0_12_2 (pc' := 14) (Ls' := #[.val (.int p1), .val (.int n), .val (.int (4 : Int32)), .val (.ref a_GREATER), .unset, .unset, .unset]) (st' := [(.int (4 : Int32))]) rfl ?_
  refine Goes.static A (hw _ (List.mem_of_getElem? (i := 8) rfl)) (hw _ (List.mem_of_getElem? (i := 9) rfl)) (hw _ (List.mem_of_getElem? (i := 3) rfl)) (hw _ (List.mem_of_getElem? (i := 10) rfl)) at_14 pd_727763 (by decide) (argsL := [(.int (4 : Int32))]) (rest := []) rfl rfl rfl (W := 0) (Nat.le_of_ble_eq_true rfl) (by decide) (by decide) (by decide) (by decide) (km4 l Z n0 a0 hw h) (fun v hq hh => ?_)
  obtain ⟨rfl, rfl⟩ := hh
  show Goes p l e _ s m _ below meth c n0 _ h 0 0 17 #[.val (.int p1), .val (.int n), .val (.int (4 : Int32)), .val (.ref a_GREATER), .unset, .unset, .unset] [(.int (4 : Int32))]
  refine Goes.blk A _ b0_17_2 (pc' := 20) (Ls' := #[.val (.int p1), .val (.int n), .val (.int (4 : Int32)), .val (.ref a_GREATER), .val (.int (4 : Int32)), .unset, .unset]) (st' := [(.int n)]) rfl ?_
  refine Goes.if1 A at_20 (by decide) (pc' := 27) (by decide) (fun hc => (by have q9 := cP_int hc; simp only [cI] at q9; omega)) (fun hc1 => ?_)
  refine Goes.blk A _ b0_23_1 (pc' := 24) (Ls' := #[.val (.int p1), .val (.int n), .val (.int (4 : Int32)), .val (.ref a_GREATER), .val (.int (4 : Int32)), .unset, .unset]) (st' := [(.int (0 : Int32))]) rfl ?_
  refine Goes.jump A at_24 (by decide) (pc' := 36) (by decide) ?_
  refine Goes.blk A _ b0_36_6 (pc' := 45) (Ls' := #[.val (.int p1), .val (.int n), .val (.int (4 : Int32)), .val (.ref a_GREATER), .val (.int (4 : Int32)), .val (.int (0 : Int32)), .unset]) (st' := [(.int (((4 : Int32) >>> ((0 : Int32) &&& 31)) &&& (1 : Int32)))]) rfl ?_
  refine Goes.if1 A at_45 (by decide) (pc' := 52) (by decide) (fun hc2 => ?_) (fun hc => absurd (cP_t (by decide)) hc)
  refine Goes.blk A _ b0_52_4 (pc' := 57) (Ls' := #[.val (.int p1), .val (.int n), .val (.int (4 : Int32)), .val (.ref a_GREATER), .val (.int (4 : Int32)), .val (.int (0 : Int32)), .val (.int (0 : Int32))]) (st' := [(.int n), (.ref a_GREATER)]) rfl ?_
  refine Goes.virt A (hw _ (List.mem_of_getElem? (i := 11) rfl)) (hw _ (List.mem_of_getElem? (i := 12) rfl)) (hw _ (List.mem_of_getElem? (i := 14) rfl)) (hw _ (List.mem_of_getElem? (i := 14) rfl)) (hw _ (List.mem_of_getElem? (i := 13) rfl)) (hw _ (List.mem_of_getElem? (i := 6) rfl)) (hw _ (List.mem_of_getElem? (i := 15) rfl)) at_57 pd_727780 (by decide) E_GREATER (argsL := [(.int n)]) (rest := []) rfl rfl rfl (W := 0) (Nat.le_of_ble_eq_true rfl) (by decide) (by decide) (by decide) (by decide) (kh4m l Z n0 a0 hw h n hn a_GREATER E_GREATER F_GREATER) (fun v hq hh => ?_)
  obtain ⟨rfl, rfl⟩ := hh
  show Goes p l e _ s m _ below meth c n0 _ h 0 0 60 #[.val (.int p1), .val (.int n), .val (.int (4 : Int32)), .val (.ref a_GREATER), .val (.int (4 : Int32)), .val (.int (0 : Int32)), .val (.int (0 : Int32))] [(.int (0 : Int32))]
  refine Goes.blk A _ b0_60_1 (pc' := 62) (Ls' := #[.val (.int p1), .val (.int n), .val (.int (4 : Int32)), .val (.ref a_GREATER), .val (.int (4 : Int32)), .val (.int (0 : Int32)), .val (.int (0 : Int32))]) (st' := [(.int (0 : Int32)), (.int (0 : Int32))]) rfl ?_
  refine Goes.if2 A at_62 (by decide) (pc' := 69) (by decide) (fun hc => absurd hc (cP_f (by decide))) (fun hc3 => ?_)
  refine Goes.blk A _ b0_65_1 (pc' := 66) (Ls' := #[.val (.int p1), .val (.int n), .val (.int (4 : Int32)), .val (.ref a_GREATER), .val (.int (4 : Int32)), .val (.int (0 : Int32)), .val (.int (0 : Int32))]) (st' := [(.int (1 : Int32))]) rfl ?_
  refine Goes.jump A at_66 (by decide) (pc' := 70) (by decide) ?_
  exact Goes.retB A hret (by simp) hlk at_70 (z' := 1) (by decide) (by decide) (by decide) rfl
set_option maxRecDepth 65536 in
set_option maxHeartbeats 40000000 in
theorem k0_40 (l : Launch) (Z : State) (n0 : Nat) (a0 : Array Value) (hw : ∀ d ∈ tables_1, d.before a0 Z = true) (h : Heap) (p1 : Int32) (r1 : ((p1 &&& (2147483647 : Int32)) % (6 : Int32)) = (4 : Int32)) (a_EQUALS : Addr) (S_EQUALS : Sta Z h "com/example/routinier/routinier/Comparison$Operator" "EQUALS" "Lcom/example/routinier/routinier/Comparison$Operator;" (.ref a_EQUALS)) (E_EQUALS : Exa Z h a_EQUALS "com/example/routinier/routinier/Comparison$Operator") (F_EQUALS : Fld Z h a_EQUALS "java/lang/Enum" "ordinal" "I" (.int (0 : Int32))) (a_NOT_EQUALS : Addr) (S_NOT_EQUALS : Sta Z h "com/example/routinier/routinier/Comparison$Operator" "NOT_EQUALS" "Lcom/example/routinier/routinier/Comparison$Operator;" (.ref a_NOT_EQUALS)) (E_NOT_EQUALS : Exa Z h a_NOT_EQUALS "com/example/routinier/routinier/Comparison$Operator") (F_NOT_EQUALS : Fld Z h a_NOT_EQUALS "java/lang/Enum" "ordinal" "I" (.int (1 : Int32))) (a_LESS : Addr) (S_LESS : Sta Z h "com/example/routinier/routinier/Comparison$Operator" "LESS" "Lcom/example/routinier/routinier/Comparison$Operator;" (.ref a_LESS)) (E_LESS : Exa Z h a_LESS "com/example/routinier/routinier/Comparison$Operator") (F_LESS : Fld Z h a_LESS "java/lang/Enum" "ordinal" "I" (.int (2 : Int32))) (a_LESS_OR_EQUAL : Addr) (S_LESS_OR_EQUAL : Sta Z h "com/example/routinier/routinier/Comparison$Operator" "LESS_OR_EQUAL" "Lcom/example/routinier/routinier/Comparison$Operator;" (.ref a_LESS_OR_EQUAL)) (E_LESS_OR_EQUAL : Exa Z h a_LESS_OR_EQUAL "com/example/routinier/routinier/Comparison$Operator") (F_LESS_OR_EQUAL : Fld Z h a_LESS_OR_EQUAL "java/lang/Enum" "ordinal" "I" (.int (3 : Int32))) (a_GREATER : Addr) (S_GREATER : Sta Z h "com/example/routinier/routinier/Comparison$Operator" "GREATER" "Lcom/example/routinier/routinier/Comparison$Operator;" (.ref a_GREATER)) (E_GREATER : Exa Z h a_GREATER "com/example/routinier/routinier/Comparison$Operator") (F_GREATER : Fld Z h a_GREATER "java/lang/Enum" "ordinal" "I" (.int (4 : Int32))) (a_GREATER_OR_EQUAL : Addr) (S_GREATER_OR_EQUAL : Sta Z h "com/example/routinier/routinier/Comparison$Operator" "GREATER_OR_EQUAL" "Lcom/example/routinier/routinier/Comparison$Operator;" (.ref a_GREATER_OR_EQUAL)) (E_GREATER_OR_EQUAL : Exa Z h a_GREATER_OR_EQUAL "com/example/routinier/routinier/Comparison$Operator") (F_GREATER_OR_EQUAL : Fld Z h a_GREATER_OR_EQUAL "java/lang/Enum" "ordinal" "I" (.int (5 : Int32))) : Con l Z n0 x code maxLocals ret room_1 #[(.int p1), (.int (0 : Int32))] h (fun v _ => v = some (.int 1)) := by
  refine Con.mk (Ls := #[.val (.int p1), .val (.int (0 : Int32)), .unset, .unset, .unset, .unset, .unset]) pn_com_example_routinier_routinier_OperatorHoldsPinLaw (ef0_ii p1 (0 : Int32)) ?_
  intro p e s m below meth c A hret hlk hnm
  have l_0 : (0 : Int32).toInt = 0 := by decide
  refine Goes.blk A _ b0_0_1 (pc' := 1) (Ls' := #[.val (.int p1), .val (.int (0 : Int32)), .unset, .unset, .unset, .unset, .unset]) (st' := [(.int p1)]) rfl ?_
  refine Goes.ldcI A (hw _ (List.mem_of_getElem? (i := 0) rfl)) at_1 ?_
  refine Goes.blk A _ b0_3_2 (pc' := 6) (Ls' := #[.val (.int p1), .val (.int (0 : Int32)), .unset, .unset, .unset, .unset, .unset]) (st' := [(.int (6 : Int32)), (.int (p1 &&& (2147483647 : Int32)))]) rfl ?_
  refine Goes.irem A at_6 (by decide) ?_
  rw [r1]
  refine Goes.blk A _ b0_7_2 (pc' := 9) (Ls' := #[.val (.int p1), .val (.int (0 : Int32)), .val (.int (4 : Int32)), .unset, .unset, .unset, .unset]) (st' := [(.int (4 : Int32))]) rfl ?_
  refine Goes.static A (hw _ (List.mem_of_getElem? (i := 1) rfl)) (hw _ (List.mem_of_getElem? (i := 2) rfl)) (hw _ (List.mem_of_getElem? (i := 3) rfl)) (hw _ (List.mem_of_getElem? (i := 4) rfl)) at_9 pd_867258 (by decide) (argsL := [(.int (4 : Int32))]) (rest := []) rfl rfl rfl (W := 0) (Nat.le_of_ble_eq_true rfl) (by decide) (by decide) (by decide) (by decide) (kp4 l Z n0 a0 hw h a_GREATER S_GREATER) (fun v hq hh => ?_)
  obtain ⟨rfl, rfl⟩ := hh
  show Goes p l e _ s m _ below meth c n0 _ h 0 0 12 #[.val (.int p1), .val (.int (0 : Int32)), .val (.int (4 : Int32)), .unset, .unset, .unset, .unset] [(.ref a_GREATER)]
  refine Goes.blk A _ b0_12_2 (pc' := 14) (Ls' := #[.val (.int p1), .val (.int (0 : Int32)), .val (.int (4 : Int32)), .val (.ref a_GREATER), .unset, .unset, .unset]) (st' := [(.int (4 : Int32))]) rfl ?_
  refine Goes.static A (hw _ (List.mem_of_getElem? (i := 8) rfl)) (hw _ (List.mem_of_getElem? (i := 9) rfl)) (hw _ (List.mem_of_getElem? (i := 3) rfl)) (hw _ (List.mem_of_getElem? (i := 10) rfl)) at_14 pd_727763 (by decide) (argsL := [(.int (4 : Int32))]) (rest := []) rfl rfl rfl (W := 0) (Nat.le_of_ble_eq_true rfl) (by decide) (by decide) (by decide) (by decide) (km4 l Z n0 a0 hw h) (fun v hq hh => ?_)
  obtain ⟨rfl, rfl⟩ := hh
  show Goes p l e _ s m _ below meth c n0 _ h 0 0 17 #[.val (.int p1), .val (.int (0 : Int32)), .val (.int (4 : Int32)), .val (.ref a_GREATER), .unset, .unset, .unset] [(.int (4 : Int32))]
  refine Goes.blk A _ b0_17_2 (pc' := 20) (Ls' := #[.val (.int p1), .val (.int (0 : Int32)), .val (.int (4 : Int32)), .val (.ref a_GREATER), .val (.int (4 : Int32)), .unset, .unset]) (st' := [(.int (0 : Int32))]) rfl ?_
  refine Goes.if1 A at_20 (by decide) (pc' := 27) (by decide) (fun hc1 => ?_) (fun hc => absurd (cP_t (by decide)) hc)
  refine Goes.blk A _ b0_27_1 (pc' := 28) (Ls' := #[.val (.int p1), .val (.int (0 : Int32)), .val (.int (4 : Int32)), .val (.ref a_GREATER), .val (.int (4 : Int32)), .unset, .unset]) (st' := [(.int (0 : Int32))]) rfl ?_
  refine Goes.if1 A at_28 (by decide) (pc' := 35) (by decide) (fun hc => absurd hc (cP_f (by decide))) (fun hc2 => ?_)
  refine Goes.blk A _ b0_31_1 (pc' := 32) (Ls' := #[.val (.int p1), .val (.int (0 : Int32)), .val (.int (4 : Int32)), .val (.ref a_GREATER), .val (.int (4 : Int32)), .unset, .unset]) (st' := [(.int (1 : Int32))]) rfl ?_
  refine Goes.jump A at_32 (by decide) (pc' := 36) (by decide) ?_
  refine Goes.blk A _ b0_36_6 (pc' := 45) (Ls' := #[.val (.int p1), .val (.int (0 : Int32)), .val (.int (4 : Int32)), .val (.ref a_GREATER), .val (.int (4 : Int32)), .val (.int (1 : Int32)), .unset]) (st' := [(.int (((4 : Int32) >>> ((1 : Int32) &&& 31)) &&& (1 : Int32)))]) rfl ?_
  refine Goes.if1 A at_45 (by decide) (pc' := 52) (by decide) (fun hc3 => ?_) (fun hc => absurd (cP_t (by decide)) hc)
  refine Goes.blk A _ b0_52_4 (pc' := 57) (Ls' := #[.val (.int p1), .val (.int (0 : Int32)), .val (.int (4 : Int32)), .val (.ref a_GREATER), .val (.int (4 : Int32)), .val (.int (1 : Int32)), .val (.int (0 : Int32))]) (st' := [(.int (0 : Int32)), (.ref a_GREATER)]) rfl ?_
  refine Goes.virt A (hw _ (List.mem_of_getElem? (i := 11) rfl)) (hw _ (List.mem_of_getElem? (i := 12) rfl)) (hw _ (List.mem_of_getElem? (i := 14) rfl)) (hw _ (List.mem_of_getElem? (i := 14) rfl)) (hw _ (List.mem_of_getElem? (i := 13) rfl)) (hw _ (List.mem_of_getElem? (i := 6) rfl)) (hw _ (List.mem_of_getElem? (i := 15) rfl)) at_57 pd_727780 (by decide) E_GREATER (argsL := [(.int (0 : Int32))]) (rest := []) rfl rfl rfl (W := 0) (Nat.le_of_ble_eq_true rfl) (by decide) (by decide) (by decide) (by decide) (kh40 l Z n0 a0 hw h a_GREATER E_GREATER F_GREATER) (fun v hq hh => ?_)
  obtain ⟨rfl, rfl⟩ := hh
  show Goes p l e _ s m _ below meth c n0 _ h 0 0 60 #[.val (.int p1), .val (.int (0 : Int32)), .val (.int (4 : Int32)), .val (.ref a_GREATER), .val (.int (4 : Int32)), .val (.int (1 : Int32)), .val (.int (0 : Int32))] [(.int (0 : Int32))]
  refine Goes.blk A _ b0_60_1 (pc' := 62) (Ls' := #[.val (.int p1), .val (.int (0 : Int32)), .val (.int (4 : Int32)), .val (.ref a_GREATER), .val (.int (4 : Int32)), .val (.int (1 : Int32)), .val (.int (0 : Int32))]) (st' := [(.int (0 : Int32)), (.int (0 : Int32))]) rfl ?_
  refine Goes.if2 A at_62 (by decide) (pc' := 69) (by decide) (fun hc => absurd hc (cP_f (by decide))) (fun hc4 => ?_)
  refine Goes.blk A _ b0_65_1 (pc' := 66) (Ls' := #[.val (.int p1), .val (.int (0 : Int32)), .val (.int (4 : Int32)), .val (.ref a_GREATER), .val (.int (4 : Int32)), .val (.int (1 : Int32)), .val (.int (0 : Int32))]) (st' := [(.int (1 : Int32))]) rfl ?_
  refine Goes.jump A at_66 (by decide) (pc' := 70) (by decide) ?_
  exact Goes.retB A hret (by simp) hlk at_70 (z' := 1) (by decide) (by decide) (by decide) rfl
set_option maxRecDepth 65536 in
set_option maxHeartbeats 40000000 in
theorem k0_4p (l : Launch) (Z : State) (n0 : Nat) (a0 : Array Value) (hw : ∀ d ∈ tables_1, d.before a0 Z = true) (h : Heap) (p1 : Int32) (r1 : ((p1 &&& (2147483647 : Int32)) % (6 : Int32)) = (4 : Int32)) (n : Int32) (hn : 0 < n.toInt) (a_EQUALS : Addr) (S_EQUALS : Sta Z h "com/example/routinier/routinier/Comparison$Operator" "EQUALS" "Lcom/example/routinier/routinier/Comparison$Operator;" (.ref a_EQUALS)) (E_EQUALS : Exa Z h a_EQUALS "com/example/routinier/routinier/Comparison$Operator") (F_EQUALS : Fld Z h a_EQUALS "java/lang/Enum" "ordinal" "I" (.int (0 : Int32))) (a_NOT_EQUALS : Addr) (S_NOT_EQUALS : Sta Z h "com/example/routinier/routinier/Comparison$Operator" "NOT_EQUALS" "Lcom/example/routinier/routinier/Comparison$Operator;" (.ref a_NOT_EQUALS)) (E_NOT_EQUALS : Exa Z h a_NOT_EQUALS "com/example/routinier/routinier/Comparison$Operator") (F_NOT_EQUALS : Fld Z h a_NOT_EQUALS "java/lang/Enum" "ordinal" "I" (.int (1 : Int32))) (a_LESS : Addr) (S_LESS : Sta Z h "com/example/routinier/routinier/Comparison$Operator" "LESS" "Lcom/example/routinier/routinier/Comparison$Operator;" (.ref a_LESS)) (E_LESS : Exa Z h a_LESS "com/example/routinier/routinier/Comparison$Operator") (F_LESS : Fld Z h a_LESS "java/lang/Enum" "ordinal" "I" (.int (2 : Int32))) (a_LESS_OR_EQUAL : Addr) (S_LESS_OR_EQUAL : Sta Z h "com/example/routinier/routinier/Comparison$Operator" "LESS_OR_EQUAL" "Lcom/example/routinier/routinier/Comparison$Operator;" (.ref a_LESS_OR_EQUAL)) (E_LESS_OR_EQUAL : Exa Z h a_LESS_OR_EQUAL "com/example/routinier/routinier/Comparison$Operator") (F_LESS_OR_EQUAL : Fld Z h a_LESS_OR_EQUAL "java/lang/Enum" "ordinal" "I" (.int (3 : Int32))) (a_GREATER : Addr) (S_GREATER : Sta Z h "com/example/routinier/routinier/Comparison$Operator" "GREATER" "Lcom/example/routinier/routinier/Comparison$Operator;" (.ref a_GREATER)) (E_GREATER : Exa Z h a_GREATER "com/example/routinier/routinier/Comparison$Operator") (F_GREATER : Fld Z h a_GREATER "java/lang/Enum" "ordinal" "I" (.int (4 : Int32))) (a_GREATER_OR_EQUAL : Addr) (S_GREATER_OR_EQUAL : Sta Z h "com/example/routinier/routinier/Comparison$Operator" "GREATER_OR_EQUAL" "Lcom/example/routinier/routinier/Comparison$Operator;" (.ref a_GREATER_OR_EQUAL)) (E_GREATER_OR_EQUAL : Exa Z h a_GREATER_OR_EQUAL "com/example/routinier/routinier/Comparison$Operator") (F_GREATER_OR_EQUAL : Fld Z h a_GREATER_OR_EQUAL "java/lang/Enum" "ordinal" "I" (.int (5 : Int32))) : Con l Z n0 x code maxLocals ret room_1 #[(.int p1), (.int n)] h (fun v _ => v = some (.int 1)) := by
  refine Con.mk (Ls := #[.val (.int p1), .val (.int n), .unset, .unset, .unset, .unset, .unset]) pn_com_example_routinier_routinier_OperatorHoldsPinLaw (ef0_ii p1 n) ?_
  intro p e s m below meth c A hret hlk hnm
  have l_0 : (0 : Int32).toInt = 0 := by decide
  refine Goes.blk A _ b0_0_1 (pc' := 1) (Ls' := #[.val (.int p1), .val (.int n), .unset, .unset, .unset, .unset, .unset]) (st' := [(.int p1)]) rfl ?_
  refine Goes.ldcI A (hw _ (List.mem_of_getElem? (i := 0) rfl)) at_1 ?_
  refine Goes.blk A _ b0_3_2 (pc' := 6) (Ls' := #[.val (.int p1), .val (.int n), .unset, .unset, .unset, .unset, .unset]) (st' := [(.int (6 : Int32)), (.int (p1 &&& (2147483647 : Int32)))]) rfl ?_
  refine Goes.irem A at_6 (by decide) ?_
  rw [r1]
  refine Goes.blk A _ b0_7_2 (pc' := 9) (Ls' := #[.val (.int p1), .val (.int n), .val (.int (4 : Int32)), .unset, .unset, .unset, .unset]) (st' := [(.int (4 : Int32))]) rfl ?_
  refine Goes.static A (hw _ (List.mem_of_getElem? (i := 1) rfl)) (hw _ (List.mem_of_getElem? (i := 2) rfl)) (hw _ (List.mem_of_getElem? (i := 3) rfl)) (hw _ (List.mem_of_getElem? (i := 4) rfl)) at_9 pd_867258 (by decide) (argsL := [(.int (4 : Int32))]) (rest := []) rfl rfl rfl (W := 0) (Nat.le_of_ble_eq_true rfl) (by decide) (by decide) (by decide) (by decide) (kp4 l Z n0 a0 hw h a_GREATER S_GREATER) (fun v hq hh => ?_)
  obtain ⟨rfl, rfl⟩ := hh
  show Goes p l e _ s m _ below meth c n0 _ h 0 0 12 #[.val (.int p1), .val (.int n), .val (.int (4 : Int32)), .unset, .unset, .unset, .unset] [(.ref a_GREATER)]
  refine Goes.blk A _ b0_12_2 (pc' := 14) (Ls' := #[.val (.int p1), .val (.int n), .val (.int (4 : Int32)), .val (.ref a_GREATER), .unset, .unset, .unset]) (st' := [(.int (4 : Int32))]) rfl ?_
  refine Goes.static A (hw _ (List.mem_of_getElem? (i := 8) rfl)) (hw _ (List.mem_of_getElem? (i := 9) rfl)) (hw _ (List.mem_of_getElem? (i := 3) rfl)) (hw _ (List.mem_of_getElem? (i := 10) rfl)) at_14 pd_727763 (by decide) (argsL := [(.int (4 : Int32))]) (rest := []) rfl rfl rfl (W := 0) (Nat.le_of_ble_eq_true rfl) (by decide) (by decide) (by decide) (by decide) (km4 l Z n0 a0 hw h) (fun v hq hh => ?_)
  obtain ⟨rfl, rfl⟩ := hh
  show Goes p l e _ s m _ below meth c n0 _ h 0 0 17 #[.val (.int p1), .val (.int n), .val (.int (4 : Int32)), .val (.ref a_GREATER), .unset, .unset, .unset] [(.int (4 : Int32))]
  refine Goes.blk A _ b0_17_2 (pc' := 20) (Ls' := #[.val (.int p1), .val (.int n), .val (.int (4 : Int32)), .val (.ref a_GREATER), .val (.int (4 : Int32)), .unset, .unset]) (st' := [(.int n)]) rfl ?_
  refine Goes.if1 A at_20 (by decide) (pc' := 27) (by decide) (fun hc1 => ?_) (fun hc => (by have q9 := cP_nint hc; simp only [cI] at q9; omega))
  refine Goes.blk A _ b0_27_1 (pc' := 28) (Ls' := #[.val (.int p1), .val (.int n), .val (.int (4 : Int32)), .val (.ref a_GREATER), .val (.int (4 : Int32)), .unset, .unset]) (st' := [(.int n)]) rfl ?_
  refine Goes.if1 A at_28 (by decide) (pc' := 35) (by decide) (fun hc2 => ?_) (fun hc => (by have q9 := cP_nint hc; simp only [cI] at q9; omega))
  refine Goes.blk A _ b0_35_7 (pc' := 45) (Ls' := #[.val (.int p1), .val (.int n), .val (.int (4 : Int32)), .val (.ref a_GREATER), .val (.int (4 : Int32)), .val (.int (2 : Int32)), .unset]) (st' := [(.int (((4 : Int32) >>> ((2 : Int32) &&& 31)) &&& (1 : Int32)))]) rfl ?_
  refine Goes.if1 A at_45 (by decide) (pc' := 52) (by decide) (fun hc => absurd hc (cP_f (by decide))) (fun hc3 => ?_)
  refine Goes.blk A _ b0_48_1 (pc' := 49) (Ls' := #[.val (.int p1), .val (.int n), .val (.int (4 : Int32)), .val (.ref a_GREATER), .val (.int (4 : Int32)), .val (.int (2 : Int32)), .unset]) (st' := [(.int (1 : Int32))]) rfl ?_
  refine Goes.jump A at_49 (by decide) (pc' := 53) (by decide) ?_
  refine Goes.blk A _ b0_53_3 (pc' := 57) (Ls' := #[.val (.int p1), .val (.int n), .val (.int (4 : Int32)), .val (.ref a_GREATER), .val (.int (4 : Int32)), .val (.int (2 : Int32)), .val (.int (1 : Int32))]) (st' := [(.int n), (.ref a_GREATER)]) rfl ?_
  refine Goes.virt A (hw _ (List.mem_of_getElem? (i := 11) rfl)) (hw _ (List.mem_of_getElem? (i := 12) rfl)) (hw _ (List.mem_of_getElem? (i := 14) rfl)) (hw _ (List.mem_of_getElem? (i := 14) rfl)) (hw _ (List.mem_of_getElem? (i := 13) rfl)) (hw _ (List.mem_of_getElem? (i := 6) rfl)) (hw _ (List.mem_of_getElem? (i := 15) rfl)) at_57 pd_727780 (by decide) E_GREATER (argsL := [(.int n)]) (rest := []) rfl rfl rfl (W := 0) (Nat.le_of_ble_eq_true rfl) (by decide) (by decide) (by decide) (by decide) (kh4p l Z n0 a0 hw h n hn a_GREATER E_GREATER F_GREATER) (fun v hq hh => ?_)
  obtain ⟨rfl, rfl⟩ := hh
  show Goes p l e _ s m _ below meth c n0 _ h 0 0 60 #[.val (.int p1), .val (.int n), .val (.int (4 : Int32)), .val (.ref a_GREATER), .val (.int (4 : Int32)), .val (.int (2 : Int32)), .val (.int (1 : Int32))] [(.int (1 : Int32))]
  refine Goes.blk A _ b0_60_1 (pc' := 62) (Ls' := #[.val (.int p1), .val (.int n), .val (.int (4 : Int32)), .val (.ref a_GREATER), .val (.int (4 : Int32)), .val (.int (2 : Int32)), .val (.int (1 : Int32))]) (st' := [(.int (1 : Int32)), (.int (1 : Int32))]) rfl ?_
  refine Goes.if2 A at_62 (by decide) (pc' := 69) (by decide) (fun hc => absurd hc (cP_f (by decide))) (fun hc4 => ?_)
  refine Goes.blk A _ b0_65_1 (pc' := 66) (Ls' := #[.val (.int p1), .val (.int n), .val (.int (4 : Int32)), .val (.ref a_GREATER), .val (.int (4 : Int32)), .val (.int (2 : Int32)), .val (.int (1 : Int32))]) (st' := [(.int (1 : Int32))]) rfl ?_
  refine Goes.jump A at_66 (by decide) (pc' := 70) (by decide) ?_
  exact Goes.retB A hret (by simp) hlk at_70 (z' := 1) (by decide) (by decide) (by decide) rfl
set_option maxRecDepth 65536 in
set_option maxHeartbeats 40000000 in
theorem k0_5m (l : Launch) (Z : State) (n0 : Nat) (a0 : Array Value) (hw : ∀ d ∈ tables_1, d.before a0 Z = true) (h : Heap) (p1 : Int32) (r1 : ((p1 &&& (2147483647 : Int32)) % (6 : Int32)) = (5 : Int32)) (n : Int32) (hn : n.toInt < 0) (a_EQUALS : Addr) (S_EQUALS : Sta Z h "com/example/routinier/routinier/Comparison$Operator" "EQUALS" "Lcom/example/routinier/routinier/Comparison$Operator;" (.ref a_EQUALS)) (E_EQUALS : Exa Z h a_EQUALS "com/example/routinier/routinier/Comparison$Operator") (F_EQUALS : Fld Z h a_EQUALS "java/lang/Enum" "ordinal" "I" (.int (0 : Int32))) (a_NOT_EQUALS : Addr) (S_NOT_EQUALS : Sta Z h "com/example/routinier/routinier/Comparison$Operator" "NOT_EQUALS" "Lcom/example/routinier/routinier/Comparison$Operator;" (.ref a_NOT_EQUALS)) (E_NOT_EQUALS : Exa Z h a_NOT_EQUALS "com/example/routinier/routinier/Comparison$Operator") (F_NOT_EQUALS : Fld Z h a_NOT_EQUALS "java/lang/Enum" "ordinal" "I" (.int (1 : Int32))) (a_LESS : Addr) (S_LESS : Sta Z h "com/example/routinier/routinier/Comparison$Operator" "LESS" "Lcom/example/routinier/routinier/Comparison$Operator;" (.ref a_LESS)) (E_LESS : Exa Z h a_LESS "com/example/routinier/routinier/Comparison$Operator") (F_LESS : Fld Z h a_LESS "java/lang/Enum" "ordinal" "I" (.int (2 : Int32))) (a_LESS_OR_EQUAL : Addr) (S_LESS_OR_EQUAL : Sta Z h "com/example/routinier/routinier/Comparison$Operator" "LESS_OR_EQUAL" "Lcom/example/routinier/routinier/Comparison$Operator;" (.ref a_LESS_OR_EQUAL)) (E_LESS_OR_EQUAL : Exa Z h a_LESS_OR_EQUAL "com/example/routinier/routinier/Comparison$Operator") (F_LESS_OR_EQUAL : Fld Z h a_LESS_OR_EQUAL "java/lang/Enum" "ordinal" "I" (.int (3 : Int32))) (a_GREATER : Addr) (S_GREATER : Sta Z h "com/example/routinier/routinier/Comparison$Operator" "GREATER" "Lcom/example/routinier/routinier/Comparison$Operator;" (.ref a_GREATER)) (E_GREATER : Exa Z h a_GREATER "com/example/routinier/routinier/Comparison$Operator") (F_GREATER : Fld Z h a_GREATER "java/lang/Enum" "ordinal" "I" (.int (4 : Int32))) (a_GREATER_OR_EQUAL : Addr) (S_GREATER_OR_EQUAL : Sta Z h "com/example/routinier/routinier/Comparison$Operator" "GREATER_OR_EQUAL" "Lcom/example/routinier/routinier/Comparison$Operator;" (.ref a_GREATER_OR_EQUAL)) (E_GREATER_OR_EQUAL : Exa Z h a_GREATER_OR_EQUAL "com/example/routinier/routinier/Comparison$Operator") (F_GREATER_OR_EQUAL : Fld Z h a_GREATER_OR_EQUAL "java/lang/Enum" "ordinal" "I" (.int (5 : Int32))) : Con l Z n0 x code maxLocals ret room_1 #[(.int p1), (.int n)] h (fun v _ => v = some (.int 1)) := by
  refine Con.mk (Ls := #[.val (.int p1), .val (.int n), .unset, .unset, .unset, .unset, .unset]) pn_com_example_routinier_routinier_OperatorHoldsPinLaw (ef0_ii p1 n) ?_
  intro p e s m below meth c A hret hlk hnm
  have l_0 : (0 : Int32).toInt = 0 := by decide
  refine Goes.blk A _ b0_0_1 (pc' := 1) (Ls' := #[.val (.int p1), .val (.int n), .unset, .unset, .unset, .unset, .unset]) (st' := [(.int p1)]) rfl ?_
  refine Goes.ldcI A (hw _ (List.mem_of_getElem? (i := 0) rfl)) at_1 ?_
  refine Goes.blk A _ b0_3_2 (pc' := 6) (Ls' := #[.val (.int p1), .val (.int n), .unset, .unset, .unset, .unset, .unset]) (st' := [(.int (6 : Int32)), (.int (p1 &&& (2147483647 : Int32)))]) rfl ?_
  refine Goes.irem A at_6 (by decide) ?_
  rw [r1]
  refine Goes.blk A _ b0_7_2 (pc' := 9) (Ls' := #[.val (.int p1), .val (.int n), .val (.int (5 : Int32)), .unset, .unset, .unset, .unset]) (st' := [(.int (5 : Int32))]) rfl ?_
  refine Goes.static A (hw _ (List.mem_of_getElem? (i := 1) rfl)) (hw _ (List.mem_of_getElem? (i := 2) rfl)) (hw _ (List.mem_of_getElem? (i := 3) rfl)) (hw _ (List.mem_of_getElem? (i := 4) rfl)) at_9 pd_867258 (by decide) (argsL := [(.int (5 : Int32))]) (rest := []) rfl rfl rfl (W := 0) (Nat.le_of_ble_eq_true rfl) (by decide) (by decide) (by decide) (by decide) (kp5 l Z n0 a0 hw h a_GREATER_OR_EQUAL S_GREATER_OR_EQUAL) (fun v hq hh => ?_)
  obtain ⟨rfl, rfl⟩ := hh
  show Goes p l e _ s m _ below meth c n0 _ h 0 0 12 #[.val (.int p1), .val (.int n), .val (.int (5 : Int32)), .unset, .unset, .unset, .unset] [(.ref a_GREATER_OR_EQUAL)]
  refine Goes.blk A _ b0_12_2 (pc' := 14) (Ls' := #[.val (.int p1), .val (.int n), .val (.int (5 : Int32)), .val (.ref a_GREATER_OR_EQUAL), .unset, .unset, .unset]) (st' := [(.int (5 : Int32))]) rfl ?_
  refine Goes.static A (hw _ (List.mem_of_getElem? (i := 8) rfl)) (hw _ (List.mem_of_getElem? (i := 9) rfl)) (hw _ (List.mem_of_getElem? (i := 3) rfl)) (hw _ (List.mem_of_getElem? (i := 10) rfl)) at_14 pd_727763 (by decide) (argsL := [(.int (5 : Int32))]) (rest := []) rfl rfl rfl (W := 0) (Nat.le_of_ble_eq_true rfl) (by decide) (by decide) (by decide) (by decide) (km5 l Z n0 a0 hw h) (fun v hq hh => ?_)
  obtain ⟨rfl, rfl⟩ := hh
  show Goes p l e _ s m _ below meth c n0 _ h 0 0 17 #[.val (.int p1), .val (.int n), .val (.int (5 : Int32)), .val (.ref a_GREATER_OR_EQUAL), .unset, .unset, .unset] [(.int (6 : Int32))]
  refine Goes.blk A _ b0_17_2 (pc' := 20) (Ls' := #[.val (.int p1), .val (.int n), .val (.int (5 : Int32)), .val (.ref a_GREATER_OR_EQUAL), .val (.int (6 : Int32)), .unset, .unset]) (st' := [(.int n)]) rfl ?_
  refine Goes.if1 A at_20 (by decide) (pc' := 27) (by decide) (fun hc => (by have q9 := cP_int hc; simp only [cI] at q9; omega)) (fun hc1 => ?_)
  refine Goes.blk A _ b0_23_1 (pc' := 24) (Ls' := #[.val (.int p1), .val (.int n), .val (.int (5 : Int32)), .val (.ref a_GREATER_OR_EQUAL), .val (.int (6 : Int32)), .unset, .unset]) (st' := [(.int (0 : Int32))]) rfl ?_
  refine Goes.jump A at_24 (by decide) (pc' := 36) (by decide) ?_
  refine Goes.blk A _ b0_36_6 (pc' := 45) (Ls' := #[.val (.int p1), .val (.int n), .val (.int (5 : Int32)), .val (.ref a_GREATER_OR_EQUAL), .val (.int (6 : Int32)), .val (.int (0 : Int32)), .unset]) (st' := [(.int (((6 : Int32) >>> ((0 : Int32) &&& 31)) &&& (1 : Int32)))]) rfl ?_
  refine Goes.if1 A at_45 (by decide) (pc' := 52) (by decide) (fun hc2 => ?_) (fun hc => absurd (cP_t (by decide)) hc)
  refine Goes.blk A _ b0_52_4 (pc' := 57) (Ls' := #[.val (.int p1), .val (.int n), .val (.int (5 : Int32)), .val (.ref a_GREATER_OR_EQUAL), .val (.int (6 : Int32)), .val (.int (0 : Int32)), .val (.int (0 : Int32))]) (st' := [(.int n), (.ref a_GREATER_OR_EQUAL)]) rfl ?_
  refine Goes.virt A (hw _ (List.mem_of_getElem? (i := 11) rfl)) (hw _ (List.mem_of_getElem? (i := 12) rfl)) (hw _ (List.mem_of_getElem? (i := 14) rfl)) (hw _ (List.mem_of_getElem? (i := 14) rfl)) (hw _ (List.mem_of_getElem? (i := 13) rfl)) (hw _ (List.mem_of_getElem? (i := 6) rfl)) (hw _ (List.mem_of_getElem? (i := 15) rfl)) at_57 pd_727780 (by decide) E_GREATER_OR_EQUAL (argsL := [(.int n)]) (rest := []) rfl rfl rfl (W := 0) (Nat.le_of_ble_eq_true rfl) (by decide) (by decide) (by decide) (by decide) (kh5m l Z n0 a0 hw h n hn a_GREATER_OR_EQUAL E_GREATER_OR_EQUAL F_GREATER_OR_EQUAL) (fun v hq hh => ?_)
  obtain ⟨rfl, rfl⟩ := hh
  show Goes p l e _ s m _ below meth c n0 _ h 0 0 60 #[.val (.int p1), .val (.int n), .val (.int (5 : Int32)), .val (.ref a_GREATER_OR_EQUAL), .val (.int (6 : Int32)), .val (.int (0 : Int32)), .val (.int (0 : Int32))] [(.int (0 : Int32))]
  refine Goes.blk A _ b0_60_1 (pc' := 62) (Ls' := #[.val (.int p1), .val (.int n), .val (.int (5 : Int32)), .val (.ref a_GREATER_OR_EQUAL), .val (.int (6 : Int32)), .val (.int (0 : Int32)), .val (.int (0 : Int32))]) (st' := [(.int (0 : Int32)), (.int (0 : Int32))]) rfl ?_
  refine Goes.if2 A at_62 (by decide) (pc' := 69) (by decide) (fun hc => absurd hc (cP_f (by decide))) (fun hc3 => ?_)
  refine Goes.blk A _ b0_65_1 (pc' := 66) (Ls' := #[.val (.int p1), .val (.int n), .val (.int (5 : Int32)), .val (.ref a_GREATER_OR_EQUAL), .val (.int (6 : Int32)), .val (.int (0 : Int32)), .val (.int (0 : Int32))]) (st' := [(.int (1 : Int32))]) rfl ?_
  refine Goes.jump A at_66 (by decide) (pc' := 70) (by decide) ?_
  exact Goes.retB A hret (by simp) hlk at_70 (z' := 1) (by decide) (by decide) (by decide) rfl
set_option maxRecDepth 65536 in
set_option maxHeartbeats 40000000 in
theorem k0_50 (l : Launch) (Z : State) (n0 : Nat) (a0 : Array Value) (hw : ∀ d ∈ tables_1, d.before a0 Z = true) (h : Heap) (p1 : Int32) (r1 : ((p1 &&& (2147483647 : Int32)) % (6 : Int32)) = (5 : Int32)) (a_EQUALS : Addr) (S_EQUALS : Sta Z h "com/example/routinier/routinier/Comparison$Operator" "EQUALS" "Lcom/example/routinier/routinier/Comparison$Operator;" (.ref a_EQUALS)) (E_EQUALS : Exa Z h a_EQUALS "com/example/routinier/routinier/Comparison$Operator") (F_EQUALS : Fld Z h a_EQUALS "java/lang/Enum" "ordinal" "I" (.int (0 : Int32))) (a_NOT_EQUALS : Addr) (S_NOT_EQUALS : Sta Z h "com/example/routinier/routinier/Comparison$Operator" "NOT_EQUALS" "Lcom/example/routinier/routinier/Comparison$Operator;" (.ref a_NOT_EQUALS)) (E_NOT_EQUALS : Exa Z h a_NOT_EQUALS "com/example/routinier/routinier/Comparison$Operator") (F_NOT_EQUALS : Fld Z h a_NOT_EQUALS "java/lang/Enum" "ordinal" "I" (.int (1 : Int32))) (a_LESS : Addr) (S_LESS : Sta Z h "com/example/routinier/routinier/Comparison$Operator" "LESS" "Lcom/example/routinier/routinier/Comparison$Operator;" (.ref a_LESS)) (E_LESS : Exa Z h a_LESS "com/example/routinier/routinier/Comparison$Operator") (F_LESS : Fld Z h a_LESS "java/lang/Enum" "ordinal" "I" (.int (2 : Int32))) (a_LESS_OR_EQUAL : Addr) (S_LESS_OR_EQUAL : Sta Z h "com/example/routinier/routinier/Comparison$Operator" "LESS_OR_EQUAL" "Lcom/example/routinier/routinier/Comparison$Operator;" (.ref a_LESS_OR_EQUAL)) (E_LESS_OR_EQUAL : Exa Z h a_LESS_OR_EQUAL "com/example/routinier/routinier/Comparison$Operator") (F_LESS_OR_EQUAL : Fld Z h a_LESS_OR_EQUAL "java/lang/Enum" "ordinal" "I" (.int (3 : Int32))) (a_GREATER : Addr) (S_GREATER : Sta Z h "com/example/routinier/routinier/Comparison$Operator" "GREATER" "Lcom/example/routinier/routinier/Comparison$Operator;" (.ref a_GREATER)) (E_GREATER : Exa Z h a_GREATER "com/example/routinier/routinier/Comparison$Operator") (F_GREATER : Fld Z h a_GREATER "java/lang/Enum" "ordinal" "I" (.int (4 : Int32))) (a_GREATER_OR_EQUAL : Addr) (S_GREATER_OR_EQUAL : Sta Z h "com/example/routinier/routinier/Comparison$Operator" "GREATER_OR_EQUAL" "Lcom/example/routinier/routinier/Comparison$Operator;" (.ref a_GREATER_OR_EQUAL)) (E_GREATER_OR_EQUAL : Exa Z h a_GREATER_OR_EQUAL "com/example/routinier/routinier/Comparison$Operator") (F_GREATER_OR_EQUAL : Fld Z h a_GREATER_OR_EQUAL "java/lang/Enum" "ordinal" "I" (.int (5 : Int32))) : Con l Z n0 x code maxLocals ret room_1 #[(.int p1), (.int (0 : Int32))] h (fun v _ => v = some (.int 1)) := by
  refine Con.mk (Ls := #[.val (.int p1), .val (.int (0 : Int32)), .unset, .unset, .unset, .unset, .unset]) pn_com_example_routinier_routinier_OperatorHoldsPinLaw (ef0_ii p1 (0 : Int32)) ?_
  intro p e s m below meth c A hret hlk hnm
  have l_0 : (0 : Int32).toInt = 0 := by decide
  refine Goes.blk A _ b0_0_1 (pc' := 1) (Ls' := #[.val (.int p1), .val (.int (0 : Int32)), .unset, .unset, .unset, .unset, .unset]) (st' := [(.int p1)]) rfl ?_
  refine Goes.ldcI A (hw _ (List.mem_of_getElem? (i := 0) rfl)) at_1 ?_
  refine Goes.blk A _ b0_3_2 (pc' := 6) (Ls' := #[.val (.int p1), .val (.int (0 : Int32)), .unset, .unset, .unset, .unset, .unset]) (st' := [(.int (6 : Int32)), (.int (p1 &&& (2147483647 : Int32)))]) rfl ?_
  refine Goes.irem A at_6 (by decide) ?_
  rw [r1]
  refine Goes.blk A _ b0_7_2 (pc' := 9) (Ls' := #[.val (.int p1), .val (.int (0 : Int32)), .val (.int (5 : Int32)), .unset, .unset, .unset, .unset]) (st' := [(.int (5 : Int32))]) rfl ?_
  refine Goes.static A (hw _ (List.mem_of_getElem? (i := 1) rfl)) (hw _ (List.mem_of_getElem? (i := 2) rfl)) (hw _ (List.mem_of_getElem? (i := 3) rfl)) (hw _ (List.mem_of_getElem? (i := 4) rfl)) at_9 pd_867258 (by decide) (argsL := [(.int (5 : Int32))]) (rest := []) rfl rfl rfl (W := 0) (Nat.le_of_ble_eq_true rfl) (by decide) (by decide) (by decide) (by decide) (kp5 l Z n0 a0 hw h a_GREATER_OR_EQUAL S_GREATER_OR_EQUAL) (fun v hq hh => ?_)
  obtain ⟨rfl, rfl⟩ := hh
  show Goes p l e _ s m _ below meth c n0 _ h 0 0 12 #[.val (.int p1), .val (.int (0 : Int32)), .val (.int (5 : Int32)), .unset, .unset, .unset, .unset] [(.ref a_GREATER_OR_EQUAL)]
  refine Goes.blk A _ b0_12_2 (pc' := 14) (Ls' := #[.val (.int p1), .val (.int (0 : Int32)), .val (.int (5 : Int32)), .val (.ref a_GREATER_OR_EQUAL), .unset, .unset, .unset]) (st' := [(.int (5 : Int32))]) rfl ?_
  refine Goes.static A (hw _ (List.mem_of_getElem? (i := 8) rfl)) (hw _ (List.mem_of_getElem? (i := 9) rfl)) (hw _ (List.mem_of_getElem? (i := 3) rfl)) (hw _ (List.mem_of_getElem? (i := 10) rfl)) at_14 pd_727763 (by decide) (argsL := [(.int (5 : Int32))]) (rest := []) rfl rfl rfl (W := 0) (Nat.le_of_ble_eq_true rfl) (by decide) (by decide) (by decide) (by decide) (km5 l Z n0 a0 hw h) (fun v hq hh => ?_)
  obtain ⟨rfl, rfl⟩ := hh
  show Goes p l e _ s m _ below meth c n0 _ h 0 0 17 #[.val (.int p1), .val (.int (0 : Int32)), .val (.int (5 : Int32)), .val (.ref a_GREATER_OR_EQUAL), .unset, .unset, .unset] [(.int (6 : Int32))]
  refine Goes.blk A _ b0_17_2 (pc' := 20) (Ls' := #[.val (.int p1), .val (.int (0 : Int32)), .val (.int (5 : Int32)), .val (.ref a_GREATER_OR_EQUAL), .val (.int (6 : Int32)), .unset, .unset]) (st' := [(.int (0 : Int32))]) rfl ?_
  refine Goes.if1 A at_20 (by decide) (pc' := 27) (by decide) (fun hc1 => ?_) (fun hc => absurd (cP_t (by decide)) hc)
  refine Goes.blk A _ b0_27_1 (pc' := 28) (Ls' := #[.val (.int p1), .val (.int (0 : Int32)), .val (.int (5 : Int32)), .val (.ref a_GREATER_OR_EQUAL), .val (.int (6 : Int32)), .unset, .unset]) (st' := [(.int (0 : Int32))]) rfl ?_
  refine Goes.if1 A at_28 (by decide) (pc' := 35) (by decide) (fun hc => absurd hc (cP_f (by decide))) (fun hc2 => ?_)
  refine Goes.blk A _ b0_31_1 (pc' := 32) (Ls' := #[.val (.int p1), .val (.int (0 : Int32)), .val (.int (5 : Int32)), .val (.ref a_GREATER_OR_EQUAL), .val (.int (6 : Int32)), .unset, .unset]) (st' := [(.int (1 : Int32))]) rfl ?_
  refine Goes.jump A at_32 (by decide) (pc' := 36) (by decide) ?_
  refine Goes.blk A _ b0_36_6 (pc' := 45) (Ls' := #[.val (.int p1), .val (.int (0 : Int32)), .val (.int (5 : Int32)), .val (.ref a_GREATER_OR_EQUAL), .val (.int (6 : Int32)), .val (.int (1 : Int32)), .unset]) (st' := [(.int (((6 : Int32) >>> ((1 : Int32) &&& 31)) &&& (1 : Int32)))]) rfl ?_
  refine Goes.if1 A at_45 (by decide) (pc' := 52) (by decide) (fun hc => absurd hc (cP_f (by decide))) (fun hc3 => ?_)
  refine Goes.blk A _ b0_48_1 (pc' := 49) (Ls' := #[.val (.int p1), .val (.int (0 : Int32)), .val (.int (5 : Int32)), .val (.ref a_GREATER_OR_EQUAL), .val (.int (6 : Int32)), .val (.int (1 : Int32)), .unset]) (st' := [(.int (1 : Int32))]) rfl ?_
  refine Goes.jump A at_49 (by decide) (pc' := 53) (by decide) ?_
  refine Goes.blk A _ b0_53_3 (pc' := 57) (Ls' := #[.val (.int p1), .val (.int (0 : Int32)), .val (.int (5 : Int32)), .val (.ref a_GREATER_OR_EQUAL), .val (.int (6 : Int32)), .val (.int (1 : Int32)), .val (.int (1 : Int32))]) (st' := [(.int (0 : Int32)), (.ref a_GREATER_OR_EQUAL)]) rfl ?_
  refine Goes.virt A (hw _ (List.mem_of_getElem? (i := 11) rfl)) (hw _ (List.mem_of_getElem? (i := 12) rfl)) (hw _ (List.mem_of_getElem? (i := 14) rfl)) (hw _ (List.mem_of_getElem? (i := 14) rfl)) (hw _ (List.mem_of_getElem? (i := 13) rfl)) (hw _ (List.mem_of_getElem? (i := 6) rfl)) (hw _ (List.mem_of_getElem? (i := 15) rfl)) at_57 pd_727780 (by decide) E_GREATER_OR_EQUAL (argsL := [(.int (0 : Int32))]) (rest := []) rfl rfl rfl (W := 0) (Nat.le_of_ble_eq_true rfl) (by decide) (by decide) (by decide) (by decide) (kh50 l Z n0 a0 hw h a_GREATER_OR_EQUAL E_GREATER_OR_EQUAL F_GREATER_OR_EQUAL) (fun v hq hh => ?_)
  obtain ⟨rfl, rfl⟩ := hh
  show Goes p l e _ s m _ below meth c n0 _ h 0 0 60 #[.val (.int p1), .val (.int (0 : Int32)), .val (.int (5 : Int32)), .val (.ref a_GREATER_OR_EQUAL), .val (.int (6 : Int32)), .val (.int (1 : Int32)), .val (.int (1 : Int32))] [(.int (1 : Int32))]
  refine Goes.blk A _ b0_60_1 (pc' := 62) (Ls' := #[.val (.int p1), .val (.int (0 : Int32)), .val (.int (5 : Int32)), .val (.ref a_GREATER_OR_EQUAL), .val (.int (6 : Int32)), .val (.int (1 : Int32)), .val (.int (1 : Int32))]) (st' := [(.int (1 : Int32)), (.int (1 : Int32))]) rfl ?_
  refine Goes.if2 A at_62 (by decide) (pc' := 69) (by decide) (fun hc => absurd hc (cP_f (by decide))) (fun hc4 => ?_)
  refine Goes.blk A _ b0_65_1 (pc' := 66) (Ls' := #[.val (.int p1), .val (.int (0 : Int32)), .val (.int (5 : Int32)), .val (.ref a_GREATER_OR_EQUAL), .val (.int (6 : Int32)), .val (.int (1 : Int32)), .val (.int (1 : Int32))]) (st' := [(.int (1 : Int32))]) rfl ?_
  refine Goes.jump A at_66 (by decide) (pc' := 70) (by decide) ?_
  exact Goes.retB A hret (by simp) hlk at_70 (z' := 1) (by decide) (by decide) (by decide) rfl
set_option maxRecDepth 65536 in
set_option maxHeartbeats 40000000 in
theorem k0_5p (l : Launch) (Z : State) (n0 : Nat) (a0 : Array Value) (hw : ∀ d ∈ tables_1, d.before a0 Z = true) (h : Heap) (p1 : Int32) (r1 : ((p1 &&& (2147483647 : Int32)) % (6 : Int32)) = (5 : Int32)) (n : Int32) (hn : 0 < n.toInt) (a_EQUALS : Addr) (S_EQUALS : Sta Z h "com/example/routinier/routinier/Comparison$Operator" "EQUALS" "Lcom/example/routinier/routinier/Comparison$Operator;" (.ref a_EQUALS)) (E_EQUALS : Exa Z h a_EQUALS "com/example/routinier/routinier/Comparison$Operator") (F_EQUALS : Fld Z h a_EQUALS "java/lang/Enum" "ordinal" "I" (.int (0 : Int32))) (a_NOT_EQUALS : Addr) (S_NOT_EQUALS : Sta Z h "com/example/routinier/routinier/Comparison$Operator" "NOT_EQUALS" "Lcom/example/routinier/routinier/Comparison$Operator;" (.ref a_NOT_EQUALS)) (E_NOT_EQUALS : Exa Z h a_NOT_EQUALS "com/example/routinier/routinier/Comparison$Operator") (F_NOT_EQUALS : Fld Z h a_NOT_EQUALS "java/lang/Enum" "ordinal" "I" (.int (1 : Int32))) (a_LESS : Addr) (S_LESS : Sta Z h "com/example/routinier/routinier/Comparison$Operator" "LESS" "Lcom/example/routinier/routinier/Comparison$Operator;" (.ref a_LESS)) (E_LESS : Exa Z h a_LESS "com/example/routinier/routinier/Comparison$Operator") (F_LESS : Fld Z h a_LESS "java/lang/Enum" "ordinal" "I" (.int (2 : Int32))) (a_LESS_OR_EQUAL : Addr) (S_LESS_OR_EQUAL : Sta Z h "com/example/routinier/routinier/Comparison$Operator" "LESS_OR_EQUAL" "Lcom/example/routinier/routinier/Comparison$Operator;" (.ref a_LESS_OR_EQUAL)) (E_LESS_OR_EQUAL : Exa Z h a_LESS_OR_EQUAL "com/example/routinier/routinier/Comparison$Operator") (F_LESS_OR_EQUAL : Fld Z h a_LESS_OR_EQUAL "java/lang/Enum" "ordinal" "I" (.int (3 : Int32))) (a_GREATER : Addr) (S_GREATER : Sta Z h "com/example/routinier/routinier/Comparison$Operator" "GREATER" "Lcom/example/routinier/routinier/Comparison$Operator;" (.ref a_GREATER)) (E_GREATER : Exa Z h a_GREATER "com/example/routinier/routinier/Comparison$Operator") (F_GREATER : Fld Z h a_GREATER "java/lang/Enum" "ordinal" "I" (.int (4 : Int32))) (a_GREATER_OR_EQUAL : Addr) (S_GREATER_OR_EQUAL : Sta Z h "com/example/routinier/routinier/Comparison$Operator" "GREATER_OR_EQUAL" "Lcom/example/routinier/routinier/Comparison$Operator;" (.ref a_GREATER_OR_EQUAL)) (E_GREATER_OR_EQUAL : Exa Z h a_GREATER_OR_EQUAL "com/example/routinier/routinier/Comparison$Operator") (F_GREATER_OR_EQUAL : Fld Z h a_GREATER_OR_EQUAL "java/lang/Enum" "ordinal" "I" (.int (5 : Int32))) : Con l Z n0 x code maxLocals ret room_1 #[(.int p1), (.int n)] h (fun v _ => v = some (.int 1)) := by
  refine Con.mk (Ls := #[.val (.int p1), .val (.int n), .unset, .unset, .unset, .unset, .unset]) pn_com_example_routinier_routinier_OperatorHoldsPinLaw (ef0_ii p1 n) ?_
  intro p e s m below meth c A hret hlk hnm
  have l_0 : (0 : Int32).toInt = 0 := by decide
  refine Goes.blk A _ b0_0_1 (pc' := 1) (Ls' := #[.val (.int p1), .val (.int n), .unset, .unset, .unset, .unset, .unset]) (st' := [(.int p1)]) rfl ?_
  refine Goes.ldcI A (hw _ (List.mem_of_getElem? (i := 0) rfl)) at_1 ?_
  refine Goes.blk A _ b0_3_2 (pc' := 6) (Ls' := #[.val (.int p1), .val (.int n), .unset, .unset, .unset, .unset, .unset]) (st' := [(.int (6 : Int32)), (.int (p1 &&& (2147483647 : Int32)))]) rfl ?_
  refine Goes.irem A at_6 (by decide) ?_
  rw [r1]
  refine Goes.blk A _ b0_7_2 (pc' := 9) (Ls' := #[.val (.int p1), .val (.int n), .val (.int (5 : Int32)), .unset, .unset, .unset, .unset]) (st' := [(.int (5 : Int32))]) rfl ?_
  refine Goes.static A (hw _ (List.mem_of_getElem? (i := 1) rfl)) (hw _ (List.mem_of_getElem? (i := 2) rfl)) (hw _ (List.mem_of_getElem? (i := 3) rfl)) (hw _ (List.mem_of_getElem? (i := 4) rfl)) at_9 pd_867258 (by decide) (argsL := [(.int (5 : Int32))]) (rest := []) rfl rfl rfl (W := 0) (Nat.le_of_ble_eq_true rfl) (by decide) (by decide) (by decide) (by decide) (kp5 l Z n0 a0 hw h a_GREATER_OR_EQUAL S_GREATER_OR_EQUAL) (fun v hq hh => ?_)
  obtain ⟨rfl, rfl⟩ := hh
  show Goes p l e _ s m _ below meth c n0 _ h 0 0 12 #[.val (.int p1), .val (.int n), .val (.int (5 : Int32)), .unset, .unset, .unset, .unset] [(.ref a_GREATER_OR_EQUAL)]
  refine Goes.blk A _ b0_12_2 (pc' := 14) (Ls' := #[.val (.int p1), .val (.int n), .val (.int (5 : Int32)), .val (.ref a_GREATER_OR_EQUAL), .unset, .unset, .unset]) (st' := [(.int (5 : Int32))]) rfl ?_
  refine Goes.static A (hw _ (List.mem_of_getElem? (i := 8) rfl)) (hw _ (List.mem_of_getElem? (i := 9) rfl)) (hw _ (List.mem_of_getElem? (i := 3) rfl)) (hw _ (List.mem_of_getElem? (i := 10) rfl)) at_14 pd_727763 (by decide) (argsL := [(.int (5 : Int32))]) (rest := []) rfl rfl rfl (W := 0) (Nat.le_of_ble_eq_true rfl) (by decide) (by decide) (by decide) (by decide) (km5 l Z n0 a0 hw h) (fun v hq hh => ?_)
  obtain ⟨rfl, rfl⟩ := hh
  show Goes p l e _ s m _ below meth c n0 _ h 0 0 17 #[.val (.int p1), .val (.int n), .val (.int (5 : Int32)), .val (.ref a_GREATER_OR_EQUAL), .unset, .unset, .unset] [(.int (6 : Int32))]
  refine Goes.blk A _ b0_17_2 (pc' := 20) (Ls' := #[.val (.int p1), .val (.int n), .val (.int (5 : Int32)), .val (.ref a_GREATER_OR_EQUAL), .val (.int (6 : Int32)), .unset, .unset]) (st' := [(.int n)]) rfl ?_
  refine Goes.if1 A at_20 (by decide) (pc' := 27) (by decide) (fun hc1 => ?_) (fun hc => (by have q9 := cP_nint hc; simp only [cI] at q9; omega))
  refine Goes.blk A _ b0_27_1 (pc' := 28) (Ls' := #[.val (.int p1), .val (.int n), .val (.int (5 : Int32)), .val (.ref a_GREATER_OR_EQUAL), .val (.int (6 : Int32)), .unset, .unset]) (st' := [(.int n)]) rfl ?_
  refine Goes.if1 A at_28 (by decide) (pc' := 35) (by decide) (fun hc2 => ?_) (fun hc => (by have q9 := cP_nint hc; simp only [cI] at q9; omega))
  refine Goes.blk A _ b0_35_7 (pc' := 45) (Ls' := #[.val (.int p1), .val (.int n), .val (.int (5 : Int32)), .val (.ref a_GREATER_OR_EQUAL), .val (.int (6 : Int32)), .val (.int (2 : Int32)), .unset]) (st' := [(.int (((6 : Int32) >>> ((2 : Int32) &&& 31)) &&& (1 : Int32)))]) rfl ?_
  refine Goes.if1 A at_45 (by decide) (pc' := 52) (by decide) (fun hc => absurd hc (cP_f (by decide))) (fun hc3 => ?_)
  refine Goes.blk A _ b0_48_1 (pc' := 49) (Ls' := #[.val (.int p1), .val (.int n), .val (.int (5 : Int32)), .val (.ref a_GREATER_OR_EQUAL), .val (.int (6 : Int32)), .val (.int (2 : Int32)), .unset]) (st' := [(.int (1 : Int32))]) rfl ?_
  refine Goes.jump A at_49 (by decide) (pc' := 53) (by decide) ?_
  refine Goes.blk A _ b0_53_3 (pc' := 57) (Ls' := #[.val (.int p1), .val (.int n), .val (.int (5 : Int32)), .val (.ref a_GREATER_OR_EQUAL), .val (.int (6 : Int32)), .val (.int (2 : Int32)), .val (.int (1 : Int32))]) (st' := [(.int n), (.ref a_GREATER_OR_EQUAL)]) rfl ?_
  refine Goes.virt A (hw _ (List.mem_of_getElem? (i := 11) rfl)) (hw _ (List.mem_of_getElem? (i := 12) rfl)) (hw _ (List.mem_of_getElem? (i := 14) rfl)) (hw _ (List.mem_of_getElem? (i := 14) rfl)) (hw _ (List.mem_of_getElem? (i := 13) rfl)) (hw _ (List.mem_of_getElem? (i := 6) rfl)) (hw _ (List.mem_of_getElem? (i := 15) rfl)) at_57 pd_727780 (by decide) E_GREATER_OR_EQUAL (argsL := [(.int n)]) (rest := []) rfl rfl rfl (W := 0) (Nat.le_of_ble_eq_true rfl) (by decide) (by decide) (by decide) (by decide) (kh5p l Z n0 a0 hw h n hn a_GREATER_OR_EQUAL E_GREATER_OR_EQUAL F_GREATER_OR_EQUAL) (fun v hq hh => ?_)
  obtain ⟨rfl, rfl⟩ := hh
  show Goes p l e _ s m _ below meth c n0 _ h 0 0 60 #[.val (.int p1), .val (.int n), .val (.int (5 : Int32)), .val (.ref a_GREATER_OR_EQUAL), .val (.int (6 : Int32)), .val (.int (2 : Int32)), .val (.int (1 : Int32))] [(.int (1 : Int32))]
  refine Goes.blk A _ b0_60_1 (pc' := 62) (Ls' := #[.val (.int p1), .val (.int n), .val (.int (5 : Int32)), .val (.ref a_GREATER_OR_EQUAL), .val (.int (6 : Int32)), .val (.int (2 : Int32)), .val (.int (1 : Int32))]) (st' := [(.int (1 : Int32)), (.int (1 : Int32))]) rfl ?_
  refine Goes.if2 A at_62 (by decide) (pc' := 69) (by decide) (fun hc => absurd hc (cP_f (by decide))) (fun hc4 => ?_)
  refine Goes.blk A _ b0_65_1 (pc' := 66) (Ls' := #[.val (.int p1), .val (.int n), .val (.int (5 : Int32)), .val (.ref a_GREATER_OR_EQUAL), .val (.int (6 : Int32)), .val (.int (2 : Int32)), .val (.int (1 : Int32))]) (st' := [(.int (1 : Int32))]) rfl ?_
  refine Goes.jump A at_66 (by decide) (pc' := 70) (by decide) ?_
  exact Goes.retB A hret (by simp) hlk at_70 (z' := 1) (by decide) (by decide) (by decide) rfl
theorem k0 (l : Launch) (Z : State) (n0 : Nat) (a0 : Array Value) (hw : ∀ d ∈ tables_1, d.before a0 Z = true) (h : Heap) (p1 n : Int32) (a_EQUALS : Addr) (S_EQUALS : Sta Z h "com/example/routinier/routinier/Comparison$Operator" "EQUALS" "Lcom/example/routinier/routinier/Comparison$Operator;" (.ref a_EQUALS)) (E_EQUALS : Exa Z h a_EQUALS "com/example/routinier/routinier/Comparison$Operator") (F_EQUALS : Fld Z h a_EQUALS "java/lang/Enum" "ordinal" "I" (.int (0 : Int32))) (a_NOT_EQUALS : Addr) (S_NOT_EQUALS : Sta Z h "com/example/routinier/routinier/Comparison$Operator" "NOT_EQUALS" "Lcom/example/routinier/routinier/Comparison$Operator;" (.ref a_NOT_EQUALS)) (E_NOT_EQUALS : Exa Z h a_NOT_EQUALS "com/example/routinier/routinier/Comparison$Operator") (F_NOT_EQUALS : Fld Z h a_NOT_EQUALS "java/lang/Enum" "ordinal" "I" (.int (1 : Int32))) (a_LESS : Addr) (S_LESS : Sta Z h "com/example/routinier/routinier/Comparison$Operator" "LESS" "Lcom/example/routinier/routinier/Comparison$Operator;" (.ref a_LESS)) (E_LESS : Exa Z h a_LESS "com/example/routinier/routinier/Comparison$Operator") (F_LESS : Fld Z h a_LESS "java/lang/Enum" "ordinal" "I" (.int (2 : Int32))) (a_LESS_OR_EQUAL : Addr) (S_LESS_OR_EQUAL : Sta Z h "com/example/routinier/routinier/Comparison$Operator" "LESS_OR_EQUAL" "Lcom/example/routinier/routinier/Comparison$Operator;" (.ref a_LESS_OR_EQUAL)) (E_LESS_OR_EQUAL : Exa Z h a_LESS_OR_EQUAL "com/example/routinier/routinier/Comparison$Operator") (F_LESS_OR_EQUAL : Fld Z h a_LESS_OR_EQUAL "java/lang/Enum" "ordinal" "I" (.int (3 : Int32))) (a_GREATER : Addr) (S_GREATER : Sta Z h "com/example/routinier/routinier/Comparison$Operator" "GREATER" "Lcom/example/routinier/routinier/Comparison$Operator;" (.ref a_GREATER)) (E_GREATER : Exa Z h a_GREATER "com/example/routinier/routinier/Comparison$Operator") (F_GREATER : Fld Z h a_GREATER "java/lang/Enum" "ordinal" "I" (.int (4 : Int32))) (a_GREATER_OR_EQUAL : Addr) (S_GREATER_OR_EQUAL : Sta Z h "com/example/routinier/routinier/Comparison$Operator" "GREATER_OR_EQUAL" "Lcom/example/routinier/routinier/Comparison$Operator;" (.ref a_GREATER_OR_EQUAL)) (E_GREATER_OR_EQUAL : Exa Z h a_GREATER_OR_EQUAL "com/example/routinier/routinier/Comparison$Operator") (F_GREATER_OR_EQUAL : Fld Z h a_GREATER_OR_EQUAL "java/lang/Enum" "ordinal" "I" (.int (5 : Int32))) : Con l Z n0 x code maxLocals ret room_1 #[(.int p1), (.int n)] h (fun v _ => v = some (.int 1)) := by
  rcases own_c6 (by decide) (own_rem p1 6 (by decide)) with r1 | r1 | r1 | r1 | r1 | r1 <;> rcases (by omega : n.toInt < 0 ∨ n.toInt = 0 ∨ 0 < n.toInt) with q | q | q
  · exact k0_0m l Z n0 a0 hw h p1 r1 n q a_EQUALS S_EQUALS E_EQUALS F_EQUALS a_NOT_EQUALS S_NOT_EQUALS E_NOT_EQUALS F_NOT_EQUALS a_LESS S_LESS E_LESS F_LESS a_LESS_OR_EQUAL S_LESS_OR_EQUAL E_LESS_OR_EQUAL F_LESS_OR_EQUAL a_GREATER S_GREATER E_GREATER F_GREATER a_GREATER_OR_EQUAL S_GREATER_OR_EQUAL E_GREATER_OR_EQUAL F_GREATER_OR_EQUAL
  · obtain rfl : n = 0 := Int32.toInt_inj.mp (q.trans (by decide))
    exact k0_00 l Z n0 a0 hw h p1 r1 a_EQUALS S_EQUALS E_EQUALS F_EQUALS a_NOT_EQUALS S_NOT_EQUALS E_NOT_EQUALS F_NOT_EQUALS a_LESS S_LESS E_LESS F_LESS a_LESS_OR_EQUAL S_LESS_OR_EQUAL E_LESS_OR_EQUAL F_LESS_OR_EQUAL a_GREATER S_GREATER E_GREATER F_GREATER a_GREATER_OR_EQUAL S_GREATER_OR_EQUAL E_GREATER_OR_EQUAL F_GREATER_OR_EQUAL
  · exact k0_0p l Z n0 a0 hw h p1 r1 n q a_EQUALS S_EQUALS E_EQUALS F_EQUALS a_NOT_EQUALS S_NOT_EQUALS E_NOT_EQUALS F_NOT_EQUALS a_LESS S_LESS E_LESS F_LESS a_LESS_OR_EQUAL S_LESS_OR_EQUAL E_LESS_OR_EQUAL F_LESS_OR_EQUAL a_GREATER S_GREATER E_GREATER F_GREATER a_GREATER_OR_EQUAL S_GREATER_OR_EQUAL E_GREATER_OR_EQUAL F_GREATER_OR_EQUAL
  · exact k0_1m l Z n0 a0 hw h p1 r1 n q a_EQUALS S_EQUALS E_EQUALS F_EQUALS a_NOT_EQUALS S_NOT_EQUALS E_NOT_EQUALS F_NOT_EQUALS a_LESS S_LESS E_LESS F_LESS a_LESS_OR_EQUAL S_LESS_OR_EQUAL E_LESS_OR_EQUAL F_LESS_OR_EQUAL a_GREATER S_GREATER E_GREATER F_GREATER a_GREATER_OR_EQUAL S_GREATER_OR_EQUAL E_GREATER_OR_EQUAL F_GREATER_OR_EQUAL
  · obtain rfl : n = 0 := Int32.toInt_inj.mp (q.trans (by decide))
    exact k0_10 l Z n0 a0 hw h p1 r1 a_EQUALS S_EQUALS E_EQUALS F_EQUALS a_NOT_EQUALS S_NOT_EQUALS E_NOT_EQUALS F_NOT_EQUALS a_LESS S_LESS E_LESS F_LESS a_LESS_OR_EQUAL S_LESS_OR_EQUAL E_LESS_OR_EQUAL F_LESS_OR_EQUAL a_GREATER S_GREATER E_GREATER F_GREATER a_GREATER_OR_EQUAL S_GREATER_OR_EQUAL E_GREATER_OR_EQUAL F_GREATER_OR_EQUAL
  · exact k0_1p l Z n0 a0 hw h p1 r1 n q a_EQUALS S_EQUALS E_EQUALS F_EQUALS a_NOT_EQUALS S_NOT_EQUALS E_NOT_EQUALS F_NOT_EQUALS a_LESS S_LESS E_LESS F_LESS a_LESS_OR_EQUAL S_LESS_OR_EQUAL E_LESS_OR_EQUAL F_LESS_OR_EQUAL a_GREATER S_GREATER E_GREATER F_GREATER a_GREATER_OR_EQUAL S_GREATER_OR_EQUAL E_GREATER_OR_EQUAL F_GREATER_OR_EQUAL
  · exact k0_2m l Z n0 a0 hw h p1 r1 n q a_EQUALS S_EQUALS E_EQUALS F_EQUALS a_NOT_EQUALS S_NOT_EQUALS E_NOT_EQUALS F_NOT_EQUALS a_LESS S_LESS E_LESS F_LESS a_LESS_OR_EQUAL S_LESS_OR_EQUAL E_LESS_OR_EQUAL F_LESS_OR_EQUAL a_GREATER S_GREATER E_GREATER F_GREATER a_GREATER_OR_EQUAL S_GREATER_OR_EQUAL E_GREATER_OR_EQUAL F_GREATER_OR_EQUAL
  · obtain rfl : n = 0 := Int32.toInt_inj.mp (q.trans (by decide))
    exact k0_20 l Z n0 a0 hw h p1 r1 a_EQUALS S_EQUALS E_EQUALS F_EQUALS a_NOT_EQUALS S_NOT_EQUALS E_NOT_EQUALS F_NOT_EQUALS a_LESS S_LESS E_LESS F_LESS a_LESS_OR_EQUAL S_LESS_OR_EQUAL E_LESS_OR_EQUAL F_LESS_OR_EQUAL a_GREATER S_GREATER E_GREATER F_GREATER a_GREATER_OR_EQUAL S_GREATER_OR_EQUAL E_GREATER_OR_EQUAL F_GREATER_OR_EQUAL
  · exact k0_2p l Z n0 a0 hw h p1 r1 n q a_EQUALS S_EQUALS E_EQUALS F_EQUALS a_NOT_EQUALS S_NOT_EQUALS E_NOT_EQUALS F_NOT_EQUALS a_LESS S_LESS E_LESS F_LESS a_LESS_OR_EQUAL S_LESS_OR_EQUAL E_LESS_OR_EQUAL F_LESS_OR_EQUAL a_GREATER S_GREATER E_GREATER F_GREATER a_GREATER_OR_EQUAL S_GREATER_OR_EQUAL E_GREATER_OR_EQUAL F_GREATER_OR_EQUAL
  · exact k0_3m l Z n0 a0 hw h p1 r1 n q a_EQUALS S_EQUALS E_EQUALS F_EQUALS a_NOT_EQUALS S_NOT_EQUALS E_NOT_EQUALS F_NOT_EQUALS a_LESS S_LESS E_LESS F_LESS a_LESS_OR_EQUAL S_LESS_OR_EQUAL E_LESS_OR_EQUAL F_LESS_OR_EQUAL a_GREATER S_GREATER E_GREATER F_GREATER a_GREATER_OR_EQUAL S_GREATER_OR_EQUAL E_GREATER_OR_EQUAL F_GREATER_OR_EQUAL
  · obtain rfl : n = 0 := Int32.toInt_inj.mp (q.trans (by decide))
    exact k0_30 l Z n0 a0 hw h p1 r1 a_EQUALS S_EQUALS E_EQUALS F_EQUALS a_NOT_EQUALS S_NOT_EQUALS E_NOT_EQUALS F_NOT_EQUALS a_LESS S_LESS E_LESS F_LESS a_LESS_OR_EQUAL S_LESS_OR_EQUAL E_LESS_OR_EQUAL F_LESS_OR_EQUAL a_GREATER S_GREATER E_GREATER F_GREATER a_GREATER_OR_EQUAL S_GREATER_OR_EQUAL E_GREATER_OR_EQUAL F_GREATER_OR_EQUAL
  · exact k0_3p l Z n0 a0 hw h p1 r1 n q a_EQUALS S_EQUALS E_EQUALS F_EQUALS a_NOT_EQUALS S_NOT_EQUALS E_NOT_EQUALS F_NOT_EQUALS a_LESS S_LESS E_LESS F_LESS a_LESS_OR_EQUAL S_LESS_OR_EQUAL E_LESS_OR_EQUAL F_LESS_OR_EQUAL a_GREATER S_GREATER E_GREATER F_GREATER a_GREATER_OR_EQUAL S_GREATER_OR_EQUAL E_GREATER_OR_EQUAL F_GREATER_OR_EQUAL
  · exact k0_4m l Z n0 a0 hw h p1 r1 n q a_EQUALS S_EQUALS E_EQUALS F_EQUALS a_NOT_EQUALS S_NOT_EQUALS E_NOT_EQUALS F_NOT_EQUALS a_LESS S_LESS E_LESS F_LESS a_LESS_OR_EQUAL S_LESS_OR_EQUAL E_LESS_OR_EQUAL F_LESS_OR_EQUAL a_GREATER S_GREATER E_GREATER F_GREATER a_GREATER_OR_EQUAL S_GREATER_OR_EQUAL E_GREATER_OR_EQUAL F_GREATER_OR_EQUAL
  · obtain rfl : n = 0 := Int32.toInt_inj.mp (q.trans (by decide))
    exact k0_40 l Z n0 a0 hw h p1 r1 a_EQUALS S_EQUALS E_EQUALS F_EQUALS a_NOT_EQUALS S_NOT_EQUALS E_NOT_EQUALS F_NOT_EQUALS a_LESS S_LESS E_LESS F_LESS a_LESS_OR_EQUAL S_LESS_OR_EQUAL E_LESS_OR_EQUAL F_LESS_OR_EQUAL a_GREATER S_GREATER E_GREATER F_GREATER a_GREATER_OR_EQUAL S_GREATER_OR_EQUAL E_GREATER_OR_EQUAL F_GREATER_OR_EQUAL
  · exact k0_4p l Z n0 a0 hw h p1 r1 n q a_EQUALS S_EQUALS E_EQUALS F_EQUALS a_NOT_EQUALS S_NOT_EQUALS E_NOT_EQUALS F_NOT_EQUALS a_LESS S_LESS E_LESS F_LESS a_LESS_OR_EQUAL S_LESS_OR_EQUAL E_LESS_OR_EQUAL F_LESS_OR_EQUAL a_GREATER S_GREATER E_GREATER F_GREATER a_GREATER_OR_EQUAL S_GREATER_OR_EQUAL E_GREATER_OR_EQUAL F_GREATER_OR_EQUAL
  · exact k0_5m l Z n0 a0 hw h p1 r1 n q a_EQUALS S_EQUALS E_EQUALS F_EQUALS a_NOT_EQUALS S_NOT_EQUALS E_NOT_EQUALS F_NOT_EQUALS a_LESS S_LESS E_LESS F_LESS a_LESS_OR_EQUAL S_LESS_OR_EQUAL E_LESS_OR_EQUAL F_LESS_OR_EQUAL a_GREATER S_GREATER E_GREATER F_GREATER a_GREATER_OR_EQUAL S_GREATER_OR_EQUAL E_GREATER_OR_EQUAL F_GREATER_OR_EQUAL
  · obtain rfl : n = 0 := Int32.toInt_inj.mp (q.trans (by decide))
    exact k0_50 l Z n0 a0 hw h p1 r1 a_EQUALS S_EQUALS E_EQUALS F_EQUALS a_NOT_EQUALS S_NOT_EQUALS E_NOT_EQUALS F_NOT_EQUALS a_LESS S_LESS E_LESS F_LESS a_LESS_OR_EQUAL S_LESS_OR_EQUAL E_LESS_OR_EQUAL F_LESS_OR_EQUAL a_GREATER S_GREATER E_GREATER F_GREATER a_GREATER_OR_EQUAL S_GREATER_OR_EQUAL E_GREATER_OR_EQUAL F_GREATER_OR_EQUAL
  · exact k0_5p l Z n0 a0 hw h p1 r1 n q a_EQUALS S_EQUALS E_EQUALS F_EQUALS a_NOT_EQUALS S_NOT_EQUALS E_NOT_EQUALS F_NOT_EQUALS a_LESS S_LESS E_LESS F_LESS a_LESS_OR_EQUAL S_LESS_OR_EQUAL E_LESS_OR_EQUAL F_LESS_OR_EQUAL a_GREATER S_GREATER E_GREATER F_GREATER a_GREATER_OR_EQUAL S_GREATER_OR_EQUAL E_GREATER_OR_EQUAL F_GREATER_OR_EQUAL
theorem own_fld {args : Array Value} {s : State} {t : Term} {a : Addr} {O n d : String} {k : Int32} (ev : t.eval args s none [] s = some (.ref a)) (hq : (Jvm.Cond.eq (Term.field t O n d) (Term.int k)).value args s none s [] = some true) : Fld s s.heap a O n d (.int k) := by
  refine Fld.start ?_
  have e1 := fld_at (C := O) (n := n) (dd := d) ev
  have e2 : (Term.int k).eval args s none [] s = some (.int k) := rfl
  simp only [Cond.value] at hq
  rw [e1, e2] at hq
  cases hf : s.fieldOf? a O n d with
  | none => rw [hf] at hq; cases hq
  | some v => rw [hf] at hq; cases v <;> simp at hq ⊢; exact hq
set_option maxRecDepth 65536 in
set_option maxHeartbeats 40000000 in
theorem comes_1 {Post : Tables → Env → Array Value → State → Outcome → State → Prop} (hpost : ∀ tb e args s v u, (limb_1_1.after args s (.returned v) u = true ∧ limb_1_2.after args s (.returned v) u = true ∧ True) → FrameEnd s (.returned v) u (Jvm.fieldLocs frame_1_writes args s ++ Jvm.arrayLocs frame_1_arrays args s ++ Jvm.staticLocs frame_1_statics s) 0 0 → Post tb e args s (.returned v) u) :
    ArmFor flags0 classFile x code maxLocals ret World_1 tables_1 room_1 Calls_1 rest_1 Pre_1 Post := by
  intro l hfl _ _ p e ha hc hk s m args below hf hA hF happ hP
  obtain ⟨hcalls, hrest, hpre⟩ := hP
  obtain ⟨-, -, -, hnamed, -, -, -, hat⟩ := (Spec.applies_iff hf).mp happ
  obtain ⟨hg, hn⟩ := and_e (Cond.before_iff.mp (show (Jvm.Cond.and given_1 narrow_1).before args s = true from hpre))
  obtain ⟨gc, g0⟩ := and_e hg
  obtain ⟨w0, w1, rfl⟩ : ∃ w0 w1 : Value, args = #[w0, w1] := by
    have hs : args.size = 2 := by simpa [Cond.value, given_1] using gc
    obtain ⟨L⟩ := args
    match L, hs with
    | [w0, w1], _ => exact ⟨w0, w1, rfl⟩
  have hw := fun d (hd : d ∈ tables_1) => atoms_spec (ws := Jvm.Cond.code x code maxLocals ret :: tables_1) hat d (List.mem_cons_of_mem _ hd)
  have hfit : Fit s := fun {y c} hc i hi => by
    obtain ⟨ha, rfl⟩ := Array.getElem?_eq_some_iff.mp hc
    have q := List.all_eq_true.mp ((Array.all_eq_true_iff_forall_mem.mp hF) _ (Array.getElem_mem ha)) i (List.mem_range.mpr hi)
    simpa [Array.getElem?_eq_getElem hi] using q
  obtain ⟨g0a, g1⟩ := and_e g0
  obtain ⟨i0, ei0⟩ := is_v g0a
  obtain rfl : w0 = (.int i0) := Option.some.inj ei0
  obtain ⟨i1, ei1⟩ := is_v g1
  obtain rfl : w1 = (.int i1) := Option.some.inj ei1
  obtain ⟨q0, r0⟩ := and_e hn
  obtain ⟨q1, r1⟩ := and_e r0
  obtain ⟨q2, r2⟩ := and_e r1
  obtain ⟨q3, r3⟩ := and_e r2
  obtain ⟨q4, r4⟩ := and_e r3
  obtain ⟨q5, r5⟩ := and_e r4
  obtain ⟨q6, r6⟩ := and_e r5
  obtain ⟨q7, r7⟩ := and_e r6
  obtain ⟨q8, r8⟩ := and_e r7
  obtain ⟨q9, r9⟩ := and_e r8
  obtain ⟨q10, r10⟩ := and_e r9
  obtain ⟨a_EQUALS, ev_EQUALS⟩ := exa_v q0
  have S_EQUALS : Sta s s.heap "com/example/routinier/routinier/Comparison$Operator" "EQUALS" "Lcom/example/routinier/routinier/Comparison$Operator;" (.ref a_EQUALS) := Sta.start ev_EQUALS (Or.inr ⟨(hw _ (List.mem_of_getElem? (i := 6) rfl)), (hw _ (List.mem_of_getElem? (i := 7) rfl))⟩)
  have E_EQUALS : Exa s s.heap a_EQUALS "com/example/routinier/routinier/Comparison$Operator" := Exa.start ev_EQUALS q0
  obtain ⟨a_LESS, ev_LESS⟩ := exa_v q2
  have S_LESS : Sta s s.heap "com/example/routinier/routinier/Comparison$Operator" "LESS" "Lcom/example/routinier/routinier/Comparison$Operator;" (.ref a_LESS) := Sta.start ev_LESS (Or.inr ⟨(hw _ (List.mem_of_getElem? (i := 6) rfl)), (hw _ (List.mem_of_getElem? (i := 26) rfl))⟩)
  have E_LESS : Exa s s.heap a_LESS "com/example/routinier/routinier/Comparison$Operator" := Exa.start ev_LESS q2
  obtain ⟨a_GREATER, ev_GREATER⟩ := exa_v q4
  have S_GREATER : Sta s s.heap "com/example/routinier/routinier/Comparison$Operator" "GREATER" "Lcom/example/routinier/routinier/Comparison$Operator;" (.ref a_GREATER) := Sta.start ev_GREATER (Or.inr ⟨(hw _ (List.mem_of_getElem? (i := 6) rfl)), (hw _ (List.mem_of_getElem? (i := 28) rfl))⟩)
  have E_GREATER : Exa s s.heap a_GREATER "com/example/routinier/routinier/Comparison$Operator" := Exa.start ev_GREATER q4
  obtain ⟨a_NOT_EQUALS, ev_NOT_EQUALS⟩ := exa_v q6
  have S_NOT_EQUALS : Sta s s.heap "com/example/routinier/routinier/Comparison$Operator" "NOT_EQUALS" "Lcom/example/routinier/routinier/Comparison$Operator;" (.ref a_NOT_EQUALS) := Sta.start ev_NOT_EQUALS (Or.inr ⟨(hw _ (List.mem_of_getElem? (i := 6) rfl)), (hw _ (List.mem_of_getElem? (i := 30) rfl))⟩)
  have E_NOT_EQUALS : Exa s s.heap a_NOT_EQUALS "com/example/routinier/routinier/Comparison$Operator" := Exa.start ev_NOT_EQUALS q6
  obtain ⟨a_GREATER_OR_EQUAL, ev_GREATER_OR_EQUAL⟩ := exa_v q8
  have S_GREATER_OR_EQUAL : Sta s s.heap "com/example/routinier/routinier/Comparison$Operator" "GREATER_OR_EQUAL" "Lcom/example/routinier/routinier/Comparison$Operator;" (.ref a_GREATER_OR_EQUAL) := Sta.start ev_GREATER_OR_EQUAL (Or.inr ⟨(hw _ (List.mem_of_getElem? (i := 6) rfl)), (hw _ (List.mem_of_getElem? (i := 32) rfl))⟩)
  have E_GREATER_OR_EQUAL : Exa s s.heap a_GREATER_OR_EQUAL "com/example/routinier/routinier/Comparison$Operator" := Exa.start ev_GREATER_OR_EQUAL q8
  obtain ⟨a_LESS_OR_EQUAL, ev_LESS_OR_EQUAL⟩ := exa_v q10
  have S_LESS_OR_EQUAL : Sta s s.heap "com/example/routinier/routinier/Comparison$Operator" "LESS_OR_EQUAL" "Lcom/example/routinier/routinier/Comparison$Operator;" (.ref a_LESS_OR_EQUAL) := Sta.start ev_LESS_OR_EQUAL (Or.inr ⟨(hw _ (List.mem_of_getElem? (i := 6) rfl)), (hw _ (List.mem_of_getElem? (i := 34) rfl))⟩)
  have E_LESS_OR_EQUAL : Exa s s.heap a_LESS_OR_EQUAL "com/example/routinier/routinier/Comparison$Operator" := Exa.start ev_LESS_OR_EQUAL q10
  have F_EQUALS_ordinal : Fld s s.heap a_EQUALS "java/lang/Enum" "ordinal" "I" (.int (0 : Int32)) := own_fld ev_EQUALS q1
  have F_LESS_ordinal : Fld s s.heap a_LESS "java/lang/Enum" "ordinal" "I" (.int (2 : Int32)) := own_fld ev_LESS q3
  have F_GREATER_ordinal : Fld s s.heap a_GREATER "java/lang/Enum" "ordinal" "I" (.int (4 : Int32)) := own_fld ev_GREATER q5
  have F_NOT_EQUALS_ordinal : Fld s s.heap a_NOT_EQUALS "java/lang/Enum" "ordinal" "I" (.int (1 : Int32)) := own_fld ev_NOT_EQUALS q7
  have F_GREATER_OR_EQUAL_ordinal : Fld s s.heap a_GREATER_OR_EQUAL "java/lang/Enum" "ordinal" "I" (.int (5 : Int32)) := own_fld ev_GREATER_OR_EQUAL q9
  have F_LESS_OR_EQUAL_ordinal : Fld s s.heap a_LESS_OR_EQUAL "java/lang/Enum" "ordinal" "I" (.int (3 : Int32)) := own_fld ev_LESS_OR_EQUAL r10
  obtain ⟨n, o, h1, h2, h3, v, L, rfl, ⟨hv, N⟩, hq⟩ := (k0 l s s.heap.size _ hw s.heap i0 i1 a_EQUALS S_EQUALS E_EQUALS F_EQUALS_ordinal a_NOT_EQUALS S_NOT_EQUALS E_NOT_EQUALS F_NOT_EQUALS_ordinal a_LESS S_LESS E_LESS F_LESS_ordinal a_LESS_OR_EQUAL S_LESS_OR_EQUAL E_LESS_OR_EQUAL F_LESS_OR_EQUAL_ordinal a_GREATER S_GREATER E_GREATER F_GREATER_ordinal a_GREATER_OR_EQUAL S_GREATER_OR_EQUAL E_GREATER_OR_EQUAL F_GREATER_OR_EQUAL_ordinal) tables_1 p e ha hc hk s m _ below hf ((Spec.applies_iff_loose hf).mp happ).1 ⟨rfl, State.Warmed39.refl s, rfl⟩ trivial
  subst hv
  refine ⟨n, _, h1, h2, h3, hpost _ _ _ _ _ _ ⟨Cond.after_iff.mpr rfl, Cond.after_iff.mpr (eq_i res_at (Term.int_eval (1)) rfl), trivial⟩ ⟨hq.1, hq.2.1, (hq.2.2.sift fun y hy => Or.inr (N y hy)).mono (by decide) (by decide)⟩⟩
theorem main_1_1 : Claimed_1_1 := comes_1 fun _ _ _ _ _ _ h hF => ⟨h.1, hF⟩
theorem main_1_2 : Claimed_1_2 := comes_1 fun _ _ _ _ _ _ h hF => ⟨h.2.1, hF⟩
end Jvm.Pilot.@@N@@
namespace Jvm.Pilot.@@N@@
open Jvm Jvm.ClassFile Sem Op Lib Jvm.Free Jvm.Stand Jvm.Pilot.@@N@@.Jvm.D
/-! MADE BY PROGRAM (witnessworld.py) out of the Statement's table words and the real class files: 12 classes; the members and pool entries that the words name. The judged class is class 1, her method 1. -/
namespace start1
open Jvm.ClassFile
def u (s : String) : CpInfo := .utf8 (stringToUtf16 s)
/-- a pool by its gaps: so many unusable entries, then the entry; so many at the end -/
def gap : Nat → List CpInfo → List CpInfo
  | 0, r => r
  | n + 1, r => .unusable :: gap n r
def poolList (es : List (Nat × CpInfo)) (last : Nat) : List CpInfo := es.foldr (fun e r => gap e.1 (e.2 :: r)) (gap last [])
def pool (es : List (Nat × CpInfo)) (last : Nat) : Array CpInfo := ⟨poolList es last⟩
def fileOf (pool : Array CpInfo) (this : Nat) (attrs : Array Attribute := #[]) (ms : Array MethodInfo := #[]) (fl : Nat := 33) (sup : Nat := 0) (ifs : Array Nat := #[]) (fds : Array FieldInfo := #[]) : ClassFile where
  minorVersion := 0
  majorVersion := 65
  constantPool := pool
  accessFlags := fl
  thisClass := this
  superClass := sup
  interfaces := ifs
  fields := fds
  methods := ms
  attributes := attrs
def plain (name : String) (sup : Option ClassId) : Class where
  name := name
  kind := .ordinary
  loader := none
  accessFlags := 33
  super := sup
  interfaces := #[]
  cf := none
  fields := #[]
  methods := #[]
  instanceTypes := #[]
  staticTypes := #[]
  resolved := #[]
  callSites := []
  init := .initialized
  statics := none
  mirror := none

def pool0 : Array CpInfo := pool [(5, u "<init>"), (0, u "()V"), (1, .class_ 10), (1, u "java/lang/Object")] 113

def k0m0 : Method := { name := "<init>", desc := "()V", sig := { parameters := [], returnType := none }, accessFlags := 1, code := none }
/-- java/lang/Object -/
def k0 : Class := { plain "java/lang/Object" none with
  accessFlags := 33
  interfaces := #[]
  cf := some (fileOf pool0 8 #[] #[{ accessFlags := 1, nameIndex := 5, descriptorIndex := 6, attributes := #[] }] 33 0 #[] #[])
  fields := #[]
  methods := #[k0m0]
  instanceTypes := #[]
  staticTypes := #[]
  resolved := Array.replicate 124 none
  statics := none }

def pool1 : Array CpInfo := pool [(2, .class_ 4), (1, u "java/lang/Object"), (0, u "<init>"), (0, u "()V"), (0, .integer 2147483647), (0, .methodref 9 10), (0, .class_ 11), (0, .nameAndType 12 13), (0, u "com/example/routinier/routinier/OperatorHoldsPinLaw"), (0, u "operator"), (0, u "(I)Lcom/example/routinier/routinier/Comparison$Operator;"), (0, .methodref 9 15), (0, .nameAndType 16 17), (0, u "admitted"), (0, u "(I)I"), (0, .methodref 19 20), (0, .class_ 21), (0, .nameAndType 22 23), (0, u "com/example/routinier/routinier/Comparison$Operator"), (0, u "holds"), (0, u "(I)Z"), (0, .fieldref 19 25), (0, .nameAndType 26 27), (0, u "EQUALS"), (0, u "Lcom/example/routinier/routinier/Comparison$Operator;"), (0, .fieldref 19 29), (0, .nameAndType 30 27), (0, u "NOT_EQUALS"), (0, .fieldref 19 32), (0, .nameAndType 33 27), (0, u "LESS"), (0, .fieldref 19 35), (0, .nameAndType 36 27), (0, u "LESS_OR_EQUAL"), (0, .fieldref 19 38), (0, .nameAndType 39 27), (0, u "GREATER"), (0, .fieldref 19 41), (0, .nameAndType 42 27), (0, u "GREATER_OR_EQUAL"), (2, u "law"), (0, u "(II)Z")] 7

def k1m0 : Method := { name := "<init>", desc := "()V", sig := { parameters := [], returnType := none }, accessFlags := 2, code := none }
def k1c1 : Code := { maxStack := 2, maxLocals := 7, code := code, exceptionTable := #[], attributes := #[] }
def k1m1 : Method := { name := "law", desc := "(II)Z", sig := { parameters := [.int, .int], returnType := some .boolean }, accessFlags := 9, code := some k1c1 }
def k1c2 : Code := { maxStack := 2, maxLocals := 1, code := method_3_code, exceptionTable := #[], attributes := #[] }
def k1m2 : Method := { name := "operator", desc := "(I)Lcom/example/routinier/routinier/Comparison$Operator;", sig := { parameters := [.int], returnType := some (.object "com/example/routinier/routinier/Comparison$Operator") }, accessFlags := 10, code := some k1c2 }
def k1c3 : Code := { maxStack := 2, maxLocals := 1, code := method_4_code, exceptionTable := #[], attributes := #[] }
def k1m3 : Method := { name := "admitted", desc := "(I)I", sig := { parameters := [.int], returnType := some .int }, accessFlags := 10, code := some k1c3 }
/-- com/example/routinier/routinier/OperatorHoldsPinLaw -/
def k1 : Class := { plain "com/example/routinier/routinier/OperatorHoldsPinLaw" (some 0) with
  accessFlags := 49
  interfaces := #[]
  cf := some (fileOf pool1 9 #[] #[{ accessFlags := 2, nameIndex := 5, descriptorIndex := 6, attributes := #[] }, { accessFlags := 9, nameIndex := 45, descriptorIndex := 46, attributes := #[] }, { accessFlags := 10, nameIndex := 12, descriptorIndex := 13, attributes := #[] }, { accessFlags := 10, nameIndex := 16, descriptorIndex := 17, attributes := #[] }] 49 2 #[] #[])
  fields := #[]
  methods := #[k1m0, k1m1, k1m2, k1m3]
  instanceTypes := #[]
  staticTypes := #[]
  resolved := Array.replicate 54 none
  statics := none }

def pool2 : Array CpInfo := pool [(1, .class_ 2), (0, u "java/lang/constant/Constable"), (0, .class_ 4), (0, u "java/lang/Object")] 6

/-- java/lang/constant/Constable -/
def k2 : Class := { plain "java/lang/constant/Constable" (some 0) with
  accessFlags := 1537
  interfaces := #[]
  cf := some (fileOf pool2 1 #[] #[] 1537 3 #[] #[])
  fields := #[]
  methods := #[]
  instanceTypes := #[]
  staticTypes := #[]
  resolved := Array.replicate 11 none
  statics := none }

def pool3 : Array CpInfo := pool [(1, .class_ 2), (0, u "java/lang/Comparable"), (0, .class_ 4), (0, u "java/lang/Object")] 7

/-- java/lang/Comparable -/
def k3 : Class := { plain "java/lang/Comparable" (some 0) with
  accessFlags := 1537
  interfaces := #[]
  cf := some (fileOf pool3 1 #[] #[] 1537 3 #[] #[])
  fields := #[]
  methods := #[]
  instanceTypes := #[]
  staticTypes := #[]
  resolved := Array.replicate 12 none
  statics := none }

def pool4 : Array CpInfo := pool [(1, .class_ 2), (0, u "java/io/Serializable"), (0, .class_ 4), (0, u "java/lang/Object")] 2

/-- java/io/Serializable -/
def k4 : Class := { plain "java/io/Serializable" (some 0) with
  accessFlags := 1537
  interfaces := #[]
  cf := some (fileOf pool4 1 #[] #[] 1537 3 #[] #[])
  fields := #[]
  methods := #[]
  instanceTypes := #[]
  staticTypes := #[]
  resolved := Array.replicate 7 none
  statics := none }

def pool5 : Array CpInfo := pool [(2, .class_ 4), (1, u "java/lang/Enum"), (0, u "name"), (0, u "Ljava/lang/String;"), (0, .fieldref 2 8), (0, .nameAndType 9 10), (0, u "ordinal"), (0, u "I"), (1, .class_ 14), (1, u "java/lang/Object"), (4, u "hash"), (86, .class_ 108), (1, u "java/lang/Enum$EnumDesc"), (2, .class_ 112), (0, u "java/lang/constant/Constable"), (0, .class_ 114), (0, u "java/lang/Comparable"), (0, .class_ 116), (0, u "java/io/Serializable"), (9, u "()I")] 77

def k5c0 : Code := { maxStack := 1, maxLocals := 1, code := jdk_37_method_2_code, exceptionTable := #[], attributes := #[] }
def k5m0 : Method := { name := "ordinal", desc := "()I", sig := { parameters := [], returnType := some .int }, accessFlags := 17, code := some k5c0 }
/-- java/lang/Enum -/
def k5 : Class := { plain "java/lang/Enum" (some 0) with
  accessFlags := 1057
  interfaces := #[2, 3, 4]
  cf := some (fileOf pool5 2 #[.nestMembers #[106]] #[{ accessFlags := 17, nameIndex := 9, descriptorIndex := 126, attributes := #[] }] 1057 12 #[111, 113, 115] #[{ accessFlags := 18, nameIndex := 5, descriptorIndex := 6, attributes := #[] }, { accessFlags := 18, nameIndex := 9, descriptorIndex := 10, attributes := #[] }, { accessFlags := 2, nameIndex := 19, descriptorIndex := 10, attributes := #[] }])
  fields := #[{ name := "name", type := (.object "java/lang/String"), accessFlags := 18, slot := 0, constantValue := 0 }, { name := "ordinal", type := .int, accessFlags := 18, slot := 1, constantValue := 0 }, { name := "hash", type := .int, accessFlags := 2, slot := 2, constantValue := 0 }]
  methods := #[k5m0]
  instanceTypes := #[(.object "java/lang/String"), .int, .int]
  staticTypes := #[]
  resolved := Array.replicate 204 none
  statics := none }

def pool6 : Array CpInfo := pool [(1, .class_ 2), (0, u "com/example/routinier/routinier/Comparison$Operator"), (2, u "EQUALS"), (0, u "Lcom/example/routinier/routinier/Comparison$Operator;"), (2, u "NOT_EQUALS"), (2, u "LESS"), (2, u "LESS_OR_EQUAL"), (2, u "GREATER"), (2, u "GREATER_OR_EQUAL"), (2, u "$VALUES"), (0, u "[Lcom/example/routinier/routinier/Comparison$Operator;"), (6, .class_ 34), (1, u "java/lang/Enum"), (8, u "symbol"), (0, u "Ljava/lang/String;"), (0, .methodref 1 46), (0, .nameAndType 47 48), (0, u "ordinal"), (0, u "()I"), (38, u "holds"), (0, u "(I)Z"), (7, .class_ 97), (0, u "com/example/routinier/routinier/Comparison")] 2

def k6c0 : Code := { maxStack := 4, maxLocals := 2, code := prog_28_method_5_code, exceptionTable := #[], attributes := #[] }
def k6m0 : Method := { name := "holds", desc := "(I)Z", sig := { parameters := [.int], returnType := some .boolean }, accessFlags := 0, code := some k6c0 }
/-- com/example/routinier/routinier/Comparison$Operator -/
def k6 : Class := { plain "com/example/routinier/routinier/Comparison$Operator" (some 5) with
  accessFlags := 16432
  interfaces := #[]
  cf := some (fileOf pool6 1 #[.nestHost 96] #[{ accessFlags := 0, nameIndex := 87, descriptorIndex := 88, attributes := #[] }] 16432 32 #[] #[{ accessFlags := 16409, nameIndex := 5, descriptorIndex := 6, attributes := #[] }, { accessFlags := 16409, nameIndex := 9, descriptorIndex := 6, attributes := #[] }, { accessFlags := 16409, nameIndex := 12, descriptorIndex := 6, attributes := #[] }, { accessFlags := 16409, nameIndex := 15, descriptorIndex := 6, attributes := #[] }, { accessFlags := 16409, nameIndex := 18, descriptorIndex := 6, attributes := #[] }, { accessFlags := 16409, nameIndex := 21, descriptorIndex := 6, attributes := #[] }, { accessFlags := 18, nameIndex := 43, descriptorIndex := 44, attributes := #[] }, { accessFlags := 4122, nameIndex := 24, descriptorIndex := 25, attributes := #[] }])
  fields := #[{ name := "EQUALS", type := (.object "com/example/routinier/routinier/Comparison$Operator"), accessFlags := 16409, slot := 0, constantValue := 0 }, { name := "NOT_EQUALS", type := (.object "com/example/routinier/routinier/Comparison$Operator"), accessFlags := 16409, slot := 1, constantValue := 0 }, { name := "LESS", type := (.object "com/example/routinier/routinier/Comparison$Operator"), accessFlags := 16409, slot := 2, constantValue := 0 }, { name := "LESS_OR_EQUAL", type := (.object "com/example/routinier/routinier/Comparison$Operator"), accessFlags := 16409, slot := 3, constantValue := 0 }, { name := "GREATER", type := (.object "com/example/routinier/routinier/Comparison$Operator"), accessFlags := 16409, slot := 4, constantValue := 0 }, { name := "GREATER_OR_EQUAL", type := (.object "com/example/routinier/routinier/Comparison$Operator"), accessFlags := 16409, slot := 5, constantValue := 0 }, { name := "symbol", type := (.object "java/lang/String"), accessFlags := 18, slot := 3, constantValue := 0 }, { name := "$VALUES", type := (.array (.object "com/example/routinier/routinier/Comparison$Operator")), accessFlags := 4122, slot := 6, constantValue := 0 }]
  methods := #[k6m0]
  instanceTypes := #[(.object "java/lang/String"), .int, .int, (.object "java/lang/String")]
  staticTypes := #[(.object "com/example/routinier/routinier/Comparison$Operator"), (.object "com/example/routinier/routinier/Comparison$Operator"), (.object "com/example/routinier/routinier/Comparison$Operator"), (.object "com/example/routinier/routinier/Comparison$Operator"), (.object "com/example/routinier/routinier/Comparison$Operator"), (.object "com/example/routinier/routinier/Comparison$Operator"), (.array (.object "com/example/routinier/routinier/Comparison$Operator"))]
  resolved := Array.replicate 100 none
  statics := some 0 }

def pool7 : Array CpInfo := pool [(1, u "java/lang/Cloneable"), (0, .class_ 1), (0, u "java/lang/Object"), (0, .class_ 3)] 3

/-- java/lang/Cloneable -/
def k7 : Class := { plain "java/lang/Cloneable" (some 0) with
  accessFlags := 1537
  interfaces := #[]
  cf := some (fileOf pool7 2 #[] #[] 1537 4 #[] #[])
  fields := #[]
  methods := #[]
  instanceTypes := #[]
  staticTypes := #[]
  resolved := Array.replicate 8 none
  statics := none }

/-- the primitive byte -/
def k8 : Class := { plain "byte" none with kind := .primitive 'B', accessFlags := 0x411 }
/-- [B -/
def k9 : Class := { plain "[B" (some 0) with kind := .array 8 .byte, interfaces := #[7, 4], accessFlags := 1041 }

/-- the primitive int -/
def k10 : Class := { plain "int" none with kind := .primitive 'I', accessFlags := 0x411 }
/-- [I -/
def k11 : Class := { plain "[I" (some 0) with kind := .array 10 .int, interfaces := #[7, 4], accessFlags := 1041 }

def heap : Heap := #[{ cls := 6, slots := #[.ref 1, .ref 2, .ref 3, .ref 4, .ref 5, .ref 6, .null], vm := .statics 6 },
  { cls := 6, slots := #[.null, .int 0, .int 0, .null], vm := .none },
  { cls := 6, slots := #[.null, .int 1, .int 0, .null], vm := .none },
  { cls := 6, slots := #[.null, .int 2, .int 0, .null], vm := .none },
  { cls := 6, slots := #[.null, .int 3, .int 0, .null], vm := .none },
  { cls := 6, slots := #[.null, .int 4, .int 0, .null], vm := .none },
  { cls := 6, slots := #[.null, .int 5, .int 0, .null], vm := .none }]
def classes : Array Class := #[k0, k1, k2, k3, k4, k5, k6, k7, k8, k9, k10, k11]
def interned : List (Array UInt16 × Addr) := []
def slotsUsed : Nat := 31
def theMethod : MethodId := ⟨1, 1⟩
def args0 : Array Value := #[.int 4, .int 3]
def aboutOver (below : List Frame) : State where
  vm := { classes := classes, interned := interned.toArray }
  heap := heap
  slotsUsed := slotsUsed
  threads := #[{ frames := .invoking theMethod args0 :: below }]
def below0 : List Frame := [.native { method := ⟨0, 0⟩, args := #[] }]
def about1 : State := aboutOver below0
def p0 : Program := .bare "" "" ""
def e0 : Env := launch0.env 0 0 0
theorem w_frames : about1.frames = Frame.invoking theMethod args0 :: below0 := rfl
set_option maxRecDepth 65536 in
theorem w_args : argsFit about1.vm theMethod args0 = true := by decide +kernel
set_option maxRecDepth 65536 in
theorem w_heap : heapFits about1 = true := by decide +kernel
set_option maxRecDepth 65536 in
theorem w_runnable : about1.curStatus? = some .runnable := by decide +kernel
set_option maxRecDepth 65536 in
theorem w_alone : about1.alone = true := by decide +kernel
set_option maxRecDepth 65536 in
theorem w_named : about1.methodNamed? x = some theMethod := by decide +kernel
set_option maxRecDepth 65536 in
theorem w_hears : about1.hears theMethod below0 = true := by decide +kernel
set_option maxRecDepth 65536 in
theorem w_ripe : about1.ripe theMethod args0 below0 = true := by decide +kernel
theorem w_running : about1.status = .running := rfl
set_option maxRecDepth 65536 in
theorem w_room : about1.hasRoom e0.platform room_1 = true :=
  launch0.hasRoom_least _ room_1 (by decide +kernel) (by decide +kernel) (by decide +kernel) (by decide +kernel) (by decide +kernel) (by decide +kernel)
theorem allAtoms_all (ts : List Jvm.Cond) (a : Array Jvm.Value) (st : Jvm.State) : (allAtoms ts).before a st = ts.all (fun c => c.before a st) := by
  induction ts with
  | nil => rfl
  | cons c t ih =>
    show (Jvm.Cond.and c (allAtoms t)).before a st = _
    rw [Jvm.Cond.before_and, ih, List.all_cons]
def words1 : List Jvm.Cond := Jvm.Cond.code x code maxLocals ret :: tables_1
/-- a 'code' word, met by the world's own term for the bytes: nothing is compared byte by byte -/
theorem code_word {y : MethodName} {bytes : ByteArray} {mx : Nat} {rt : Option FieldType} {a : Array Value} {s : State} {m : MethodId} {meth : Method} {c : Code} (h1 : s.methodNamed? y = some m) (h2 : s.vm.method? m = some meth) (h3 : meth.code = some c) (h4 : c.code = bytes)
    (h5 : (c.maxLocals == mx && c.exceptionTable.isEmpty && decide (c.maxStack ≤ mostOperands) && decide (meth.sig.returnType = rt) && !meth.locks && decide (parseMethodDescriptor y.desc = some meth.sig)) = true) : (Jvm.Cond.code y bytes mx rt).before a s = true := by
  simp only [Bool.and_eq_true, beq_iff_eq, Bool.not_eq_true', decide_eq_true_eq] at h5
  obtain ⟨⟨⟨⟨⟨g1, g2⟩, g3⟩, g4⟩, g5⟩, g6⟩ := h5
  simp [Cond.before, Cond.holds, Cond.value, h1, h2, h3, h4, g1, g2, g3, g4, g5, g6]
def isCode : Jvm.Cond → Bool
  | .code _ _ _ _ => true
  | _ => false
theorem all_split {L : List Jvm.Cond} {P : Jvm.Cond → Bool} (h1 : L.all (fun c => isCode c || P c) = true) (h2 : ∀ c ∈ L.filter isCode, P c = true) : L.all P = true := by
  refine List.all_eq_true.mpr fun c hc => ?_
  have h := List.all_eq_true.mp h1 c hc
  rcases Bool.eq_false_or_eq_true (isCode c) with hi | hi
  · exact h2 c (List.mem_filter.mpr ⟨hc, hi⟩)
  · simpa [hi] using h
set_option maxRecDepth 65536 in
theorem w_c0 : (Jvm.Cond.code x code maxLocals ret).before args0 about1 = true := code_word (m := ⟨1, 1⟩) (meth := k1m1) (c := k1c1) (by decide +kernel) rfl rfl rfl (by decide +kernel)
set_option maxRecDepth 65536 in
theorem w_c1 : (Jvm.Cond.code ({ cls := "com/example/routinier/routinier/OperatorHoldsPinLaw", name := "operator", desc := "(I)Lcom/example/routinier/routinier/Comparison$Operator;" } : Jvm.MethodName) method_3_code (1 : Nat) (Option.some (Jvm.ClassFile.FieldType.object "com/example/routinier/routinier/Comparison$Operator"))).before args0 about1 = true := code_word (m := ⟨1, 2⟩) (meth := k1m2) (c := k1c2) (by decide +kernel) rfl rfl rfl (by decide +kernel)
set_option maxRecDepth 65536 in
theorem w_c2 : (Jvm.Cond.code ({ cls := "com/example/routinier/routinier/OperatorHoldsPinLaw", name := "admitted", desc := "(I)I" } : Jvm.MethodName) method_4_code (1 : Nat) (Option.some Jvm.ClassFile.FieldType.int)).before args0 about1 = true := code_word (m := ⟨1, 3⟩) (meth := k1m3) (c := k1c3) (by decide +kernel) rfl rfl rfl (by decide +kernel)
set_option maxRecDepth 65536 in
theorem w_c3 : (Jvm.Cond.code ({ cls := "com/example/routinier/routinier/Comparison$Operator", name := "holds", desc := "(I)Z" } : Jvm.MethodName) prog_28_method_5_code (2 : Nat) (Option.some Jvm.ClassFile.FieldType.boolean)).before args0 about1 = true := code_word (m := ⟨6, 0⟩) (meth := k6m0) (c := k6c0) (by decide +kernel) rfl rfl rfl (by decide +kernel)
set_option maxRecDepth 65536 in
theorem w_c4 : (Jvm.Cond.code ({ cls := "java/lang/Enum", name := "ordinal", desc := "()I" } : Jvm.MethodName) jdk_37_method_2_code (1 : Nat) (Option.some Jvm.ClassFile.FieldType.int)).before args0 about1 = true := code_word (m := ⟨5, 0⟩) (meth := k5m0) (c := k5c0) (by decide +kernel) rfl rfl rfl (by decide +kernel)
def codes1 : List Jvm.Cond := [Jvm.Cond.code x code maxLocals ret, Jvm.Cond.code ({ cls := "com/example/routinier/routinier/OperatorHoldsPinLaw", name := "operator", desc := "(I)Lcom/example/routinier/routinier/Comparison$Operator;" } : Jvm.MethodName) method_3_code (1 : Nat) (Option.some (Jvm.ClassFile.FieldType.object "com/example/routinier/routinier/Comparison$Operator")), Jvm.Cond.code ({ cls := "com/example/routinier/routinier/OperatorHoldsPinLaw", name := "admitted", desc := "(I)I" } : Jvm.MethodName) method_4_code (1 : Nat) (Option.some Jvm.ClassFile.FieldType.int), Jvm.Cond.code ({ cls := "com/example/routinier/routinier/Comparison$Operator", name := "holds", desc := "(I)Z" } : Jvm.MethodName) prog_28_method_5_code (2 : Nat) (Option.some Jvm.ClassFile.FieldType.boolean), Jvm.Cond.code ({ cls := "java/lang/Enum", name := "ordinal", desc := "()I" } : Jvm.MethodName) jdk_37_method_2_code (1 : Nat) (Option.some Jvm.ClassFile.FieldType.int)]
set_option maxRecDepth 65536 in
theorem codes_eq : words1.filter isCode = codes1 := rfl
theorem w_codes : ∀ c ∈ words1.filter isCode, c.before args0 about1 = true := by
  rw [codes_eq]
  intro c hc
  simp only [codes1, List.mem_cons, List.not_mem_nil, or_false] at hc
  rcases hc with rfl | rfl | rfl | rfl | rfl
  · exact w_c0
  · exact w_c1
  · exact w_c2
  · exact w_c3
  · exact w_c4
set_option maxRecDepth 65536 in
theorem w_t1 : (words1.take 24).all (fun c => isCode c || c.before args0 about1) = true := by decide +kernel
set_option maxRecDepth 65536 in
theorem w_t2 : (words1.drop 24).all (fun c => isCode c || c.before args0 about1) = true := by decide +kernel
theorem w_tables : (allAtoms (Jvm.Cond.code x code maxLocals ret :: tables_1)).before args0 about1 = true := by
  rw [allAtoms_all]
  show words1.all (fun c => c.before args0 about1) = true
  refine all_split ?_ w_codes
  rw [← List.take_append_drop 24 words1, List.all_append, w_t1, w_t2]
  rfl
set_option maxRecDepth 65536 in
theorem w_case : (Jvm.Cond.and given_1 narrow_1).before args0 about1 = true := by decide +kernel
theorem w_applies : (headSpec (Jvm.Cond.code x code maxLocals ret :: tables_1) room_1).applies x e0.platform about1 = true :=
  (Spec.applies_iff w_frames).mpr ⟨w_running, w_runnable, w_alone, w_named, w_hears, w_ripe, w_room, w_tables⟩
theorem atStart : AtStart classFile x code maxLocals ret World_1 tables_1 room_1 Calls_1 rest_1 Pre_1 launch0 p0 e0 about1 theMethod args0 below0 :=
  ⟨lists_1, trivial, launch0.admits_env _ _ _, launch0.least_env, fairChoices_fair.cas, fairChoices_fair.clock, w_frames, w_args, w_heap, w_applies, trivial, trivial, w_case⟩
end start1
theorem witness_1 : WitnessClaimed_1 := ⟨start1.p0, start1.e0, start1.about1, start1.theMethod, start1.args0, start1.below0, start1.atStart⟩
end Jvm.Pilot.@@N@@
