import JvmDerived
import JvmDerived.Pilot.@@N@@Statement
import JvmDerived.Pilot.@@N@@Code
set_option linter.unusedVariables false
set_option linter.unusedSimpArgs false
namespace Jvm.Pilot.@@N@@
open Jvm Jvm.ClassFile Sem Op Lib Jvm.Free Jvm.Stand Jvm.LawKit Jvm.RoadKit Bundle Jvm.Pilot.@@N@@.Jvm.D
section Own
variable {p : Program} {l : Launch} {e : Env} {R : Room} {s : State} {m : MethodId} {args : Array Value} {below : List Frame} {meth : Method} {c : Code} {Z : State} {a0 : Array Value} {n0 : Nat} {Q : Option Value → Heap → Prop} {h : Heap} {cells slots pc pc' : Nat} {Ls Ls' : Array Slot} {st st' rest : List Value} {bs : ByteArray} {own : String} {mL : Nat} {T : State} {locs : List Loc}
/-- what is fixed along the walk of one body -/
def Amb (bs : ByteArray) (own : String) (mL : Nat) (Z : State) (p : Program) (s : State) (m : MethodId) (c : Code) : Prop := p.tables.exec = Jvm.exec ∧ c.code = bs ∧ Z.Warmed39 s.vm ∧ s.vm.findClass own = some m.cls ∧ c.maxLocals = mL
/-- from here the body comes to its return, and Q holds there -/
def Goes (p : Program) (l : Launch) (e : Env) (R : Room) (s : State) (m : MethodId) (args : Array Value) (below : List Frame) (meth : Method) (c : Code) (n0 : Nat) (Q : Option Value → Heap → Prop) (h : Heap) (cells slots pc : Nat) (Ls : Array Slot) (st : List Value) : Prop :=
  ∀ (T : State) (locs : List Loc), Stand p l e R s m args below meth c T locs cells slots → Fr n0 locs → T.heap = h →
    ∃ (s₂ : State) (v : Option Value) (L : List Loc), Steps p.tables e below (T.setTop (mkF m pc Ls st)) s₂ ∧ s₂.status = .running ∧ Ended s₂ below (.returned v) ∧ Q v s₂.heap ∧ Fr n0 L ∧ FrameEnd s (.returned v) s₂ L R.cells R.slots
theorem Goes.step (f : ∀ (T : State) (locs : List Loc), Stand p l e R s m args below meth c T locs cells slots → T.heap = h → ∀ target, Steps p.tables e below (T.setTop (mkF m pc' Ls' st')) target → Steps p.tables e below (T.setTop (mkF m pc Ls st)) target)
    (nx : Goes p l e R s m args below meth c n0 Q h cells slots pc' Ls' st') : Goes p l e R s m args below meth c n0 Q h cells slots pc Ls st := by
  intro T locs X N eT
  obtain ⟨s₂, v, L, h1, r⟩ := nx T locs X N eT
  exact ⟨s₂, v, L, f T locs X eT _ h1, r⟩
/-- a step by a law that hands out a new standing place, the heap as it was -/
theorem Goes.stay (f : ∀ (T : State) (locs : List Loc), Stand p l e R s m args below meth c T locs cells slots → T.heap = h → ∃ T', Stand p l e R s m args below meth c T' locs cells slots ∧ T'.heap = h ∧ ∀ target, Steps p.tables e below (T'.setTop (mkF m pc' Ls' st')) target → Steps p.tables e below (T.setTop (mkF m pc Ls st)) target)
    (nx : Goes p l e R s m args below meth c n0 Q h cells slots pc' Ls' st') : Goes p l e R s m args below meth c n0 Q h cells slots pc Ls st := by
  intro T locs X N eT
  obtain ⟨T', X', eT', k⟩ := f T locs X eT
  obtain ⟨s₂, v, L, h1, r⟩ := nx T' locs X' N eT'
  exact ⟨s₂, v, L, k _ h1, r⟩
/-- one plain step: its length, the locals, the stack -/
def sim1 (i : Instr) (Ls : Array Slot) (st : List Value) : Option (Nat × Array Slot × List Value) :=
  match i with
  | .iload_n k => match Ls[k.val]? with | some (.val (.int v)) => some (1, Ls, .int v :: st) | _ => none
  | .iload k => match Ls[k]? with | some (.val (.int v)) => some (2, Ls, .int v :: st) | _ => none
  | .aload_n k => match Ls[k.val]? with | some (.val v) => if v.isRef = true then some (1, Ls, v :: st) else none | _ => none
  | .aload k => match Ls[k]? with | some (.val v) => if v.isRef = true then some (2, Ls, v :: st) else none | _ => none
  | .lload_n k => match Ls[k.val]? with | some (.val (.long v)) => some (1, Ls, .long v :: st) | _ => none
  | .lload k => match Ls[k]? with | some (.val (.long v)) => some (2, Ls, .long v :: st) | _ => none
  | .istore_n k => match st with | .int v :: r => (match storeLocals Ls k.val (.int v) with | some L => some (1, L, r) | none => none) | _ => none
  | .istore k => match st with | .int v :: r => (match storeLocals Ls k (.int v) with | some L => some (2, L, r) | none => none) | _ => none
  | .astore_n k => match st with | v :: r => if v.isRef = true then (match storeLocals Ls k.val v with | some L => some (1, L, r) | none => none) else none | _ => none
  | .astore k => match st with | v :: r => if v.isRef = true then (match storeLocals Ls k v with | some L => some (2, L, r) | none => none) else none | _ => none
  | .lstore_n k => match st with | .long v :: r => (match storeLocals Ls k.val (.long v) with | some L => some (1, L, r) | none => none) | _ => none
  | .lstore k => match st with | .long v :: r => (match storeLocals Ls k (.long v) with | some L => some (2, L, r) | none => none) | _ => none
  | .iconst i => some (1, Ls, .int (Int32.ofInt i) :: st)
  | .bipush i => some (2, Ls, .int (Int8.ofInt i).toInt32 :: st)
  | .sipush i => some (3, Ls, .int (Int16.ofInt i).toInt32 :: st)
  | .aconst_null => some (1, Ls, .null :: st)
  | .lconst k => some (1, Ls, .long (Int64.ofNat k.val) :: st)
  | .iadd => match st with | .int y :: .int x :: r => some (1, Ls, .int (x + y) :: r) | _ => none
  | .isub => match st with | .int y :: .int x :: r => some (1, Ls, .int (x - y) :: r) | _ => none
  | .iand => match st with | .int y :: .int x :: r => some (1, Ls, .int (x &&& y) :: r) | _ => none
  | .imul => match st with | .int y :: .int x :: r => some (1, Ls, .int (x * y) :: r) | _ => none
  | .ixor => match st with | .int y :: .int x :: r => some (1, Ls, .int (x ^^^ y) :: r) | _ => none
  | .ior => match st with | .int y :: .int x :: r => some (1, Ls, .int (x ||| y) :: r) | _ => none
  | .ishl => match st with | .int y :: .int x :: r => some (1, Ls, .int (x <<< (y &&& 31)) :: r) | _ => none
  | .ishr => match st with | .int y :: .int x :: r => some (1, Ls, .int (x >>> (y &&& 31)) :: r) | _ => none
  | .iushr => match st with | .int y :: .int x :: r => some (1, Ls, .int (XT.ushr x y) :: r) | _ => none
  | .ladd => match st with | .long y :: .long x :: r => some (1, Ls, .long (x + y) :: r) | _ => none
  | .lsub => match st with | .long y :: .long x :: r => some (1, Ls, .long (x - y) :: r) | _ => none
  | .land => match st with | .long y :: .long x :: r => some (1, Ls, .long (x &&& y) :: r) | _ => none
  | .lor => match st with | .long y :: .long x :: r => some (1, Ls, .long (x ||| y) :: r) | _ => none
  | .lxor => match st with | .long y :: .long x :: r => some (1, Ls, .long (x ^^^ y) :: r) | _ => none
  | .lshl => match st with | .int y :: .long x :: r => some (1, Ls, .long (x <<< (y.toInt64 &&& 63)) :: r) | _ => none
  | .lushr => match st with | .int y :: .long x :: r => some (1, Ls, .long (XT.ushrL x y) :: r) | _ => none
  | .lcmp => match st with | .long y :: .long x :: r => some (1, Ls, .int (XT.cmpL x y) :: r) | _ => none
  | .ineg => match st with | .int x :: r => some (1, Ls, .int (-x) :: r) | _ => none
  | .i2b => match st with | .int x :: r => some (1, Ls, .int x.toInt8.toInt32 :: r) | _ => none
  | .i2c => match st with | .int x :: r => some (1, Ls, .int x.toUInt32.toUInt16.toUInt32.toInt32 :: r) | _ => none
  | .i2l => match st with | .int x :: r => some (1, Ls, .long x.toInt64 :: r) | _ => none
  | .l2i => match st with | .long x :: r => some (1, Ls, .int x.toInt32 :: r) | _ => none
  | .lneg => match st with | .long x :: r => some (1, Ls, .long (-x) :: r) | _ => none
  | .dup => match st with | x :: r => if x.category = 1 then some (1, Ls, x :: x :: r) else none | _ => none
  | .pop => match st with | x :: r => if x.category = 1 then some (1, Ls, r) else none | _ => none
  | .dup_x1 => match st with | x :: y :: r => if x.category = 1 ∧ y.category = 1 then some (1, Ls, x :: y :: x :: r) else none | _ => none
  | .dup2 => match st with | x :: y :: r => if x.category = 1 ∧ y.category = 1 then some (1, Ls, x :: y :: x :: y :: r) else none | _ => none
  | .iinc k i => match Ls[k]? with | some (.val (.int x)) => (match storeLocals Ls k (.int (x + Int32.ofInt i)) with | some L => some (3, L, st) | none => none) | _ => none
  | _ => none
theorem sim1_ok (X : Stand p l e R s m args below meth c T locs cells slots) (hx : p.tables.exec = Jvm.exec) {i : Instr} {n : Nat} (hd : decode c.code pc = .ok (i, n)) (hs : sim1 i Ls st = some (n, Ls', st')) {target : State}
    (hr : Steps p.tables e below (T.setTop (mkF m (pc + n) Ls' st')) target) : Steps p.tables e below (T.setTop (mkF m pc Ls st)) target := by
  cases i
  case iload_n k =>
    simp only [sim1] at hs
    split at hs
    · rename_i v hv
      simp only [Option.some.injEq, Prod.mk.injEq] at hs
      obtain ⟨rfl, rfl, rfl⟩ := hs
      exact XS.iloadN X.here hx rfl hd hv hr
    · cases hs
  case iload k =>
    simp only [sim1] at hs
    split at hs
    · rename_i v hv
      simp only [Option.some.injEq, Prod.mk.injEq] at hs
      obtain ⟨rfl, rfl, rfl⟩ := hs
      exact XS.iload X.here hx rfl hd hv hr
    · cases hs
  case aload_n k =>
    simp only [sim1] at hs
    split at hs
    · rename_i v hv
      split at hs
      · rename_i hr2
        simp only [Option.some.injEq, Prod.mk.injEq] at hs
        obtain ⟨rfl, rfl, rfl⟩ := hs
        exact XS.aloadN X.here hx rfl hd hv hr2 hr
      · cases hs
    · cases hs
  case aload k =>
    simp only [sim1] at hs
    split at hs
    · rename_i v hv
      split at hs
      · rename_i hr2
        simp only [Option.some.injEq, Prod.mk.injEq] at hs
        obtain ⟨rfl, rfl, rfl⟩ := hs
        exact XS.aload X.here hx rfl hd hv hr2 hr
      · cases hs
    · cases hs
  case lload_n k =>
    simp only [sim1] at hs
    split at hs
    · rename_i v hv
      simp only [Option.some.injEq, Prod.mk.injEq] at hs
      obtain ⟨rfl, rfl, rfl⟩ := hs
      exact XT.lloadN X.here hx rfl hd hv hr
    · cases hs
  case lload k =>
    simp only [sim1] at hs
    split at hs
    · rename_i v hv
      simp only [Option.some.injEq, Prod.mk.injEq] at hs
      obtain ⟨rfl, rfl, rfl⟩ := hs
      exact XT.lload X.here hx rfl hd hv hr
    · cases hs
  case istore_n k =>
    simp only [sim1] at hs
    split at hs
    · rename_i v r
      split at hs
      · rename_i L hL
        simp only [Option.some.injEq, Prod.mk.injEq] at hs
        obtain ⟨rfl, rfl, rfl⟩ := hs
        exact XS.istoreN X.here hx rfl hd rfl hL hr
      · cases hs
    · cases hs
  case istore k =>
    simp only [sim1] at hs
    split at hs
    · rename_i v r
      split at hs
      · rename_i L hL
        simp only [Option.some.injEq, Prod.mk.injEq] at hs
        obtain ⟨rfl, rfl, rfl⟩ := hs
        exact XS.istore X.here hx rfl hd rfl hL hr
      · cases hs
    · cases hs
  case astore_n k =>
    simp only [sim1] at hs
    split at hs
    · rename_i v r
      split at hs
      · rename_i hr2
        split at hs
        · rename_i L hL
          simp only [Option.some.injEq, Prod.mk.injEq] at hs
          obtain ⟨rfl, rfl, rfl⟩ := hs
          exact XS.astoreN X.here hx rfl hd rfl hr2 hL hr
        · cases hs
      · cases hs
    · cases hs
  case astore k =>
    simp only [sim1] at hs
    split at hs
    · rename_i v r
      split at hs
      · rename_i hr2
        split at hs
        · rename_i L hL
          simp only [Option.some.injEq, Prod.mk.injEq] at hs
          obtain ⟨rfl, rfl, rfl⟩ := hs
          exact XS.astore X.here hx rfl hd rfl hr2 hL hr
        · cases hs
      · cases hs
    · cases hs
  case lstore_n k =>
    simp only [sim1] at hs
    split at hs
    · rename_i v r
      split at hs
      · rename_i L hL
        simp only [Option.some.injEq, Prod.mk.injEq] at hs
        obtain ⟨rfl, rfl, rfl⟩ := hs
        exact XT.lstoreN X.here hx rfl hd rfl hL hr
      · cases hs
    · cases hs
  case lstore k =>
    simp only [sim1] at hs
    split at hs
    · rename_i v r
      split at hs
      · rename_i L hL
        simp only [Option.some.injEq, Prod.mk.injEq] at hs
        obtain ⟨rfl, rfl, rfl⟩ := hs
        exact XT.lstore X.here hx rfl hd rfl hL hr
      · cases hs
    · cases hs
  case iconst i =>
    simp only [sim1, Option.some.injEq, Prod.mk.injEq] at hs
    obtain ⟨rfl, rfl, rfl⟩ := hs
    exact XS.iconst X.here hx rfl hd hr
  case bipush i =>
    simp only [sim1, Option.some.injEq, Prod.mk.injEq] at hs
    obtain ⟨rfl, rfl, rfl⟩ := hs
    exact XS.bipush X.here hx rfl hd hr
  case sipush i =>
    simp only [sim1, Option.some.injEq, Prod.mk.injEq] at hs
    obtain ⟨rfl, rfl, rfl⟩ := hs
    exact XS.sipush X.here hx rfl hd hr
  case aconst_null =>
    simp only [sim1, Option.some.injEq, Prod.mk.injEq] at hs
    obtain ⟨rfl, rfl, rfl⟩ := hs
    exact XS.aconstNull X.here hx rfl hd hr
  case lconst k =>
    simp only [sim1, Option.some.injEq, Prod.mk.injEq] at hs
    obtain ⟨rfl, rfl, rfl⟩ := hs
    exact XT.lconst X.here hx rfl hd hr
  case iadd =>
    simp only [sim1] at hs
    split at hs
    · rename_i y x r
      simp only [Option.some.injEq, Prod.mk.injEq] at hs
      obtain ⟨rfl, rfl, rfl⟩ := hs
      exact XS.iadd X.here hx rfl hd rfl hr
    · cases hs
  case isub =>
    simp only [sim1] at hs
    split at hs
    · rename_i y x r
      simp only [Option.some.injEq, Prod.mk.injEq] at hs
      obtain ⟨rfl, rfl, rfl⟩ := hs
      exact XS.isub X.here hx rfl hd rfl hr
    · cases hs
  case iand =>
    simp only [sim1] at hs
    split at hs
    · rename_i y x r
      simp only [Option.some.injEq, Prod.mk.injEq] at hs
      obtain ⟨rfl, rfl, rfl⟩ := hs
      exact XS.iand X.here hx rfl hd rfl hr
    · cases hs
  case imul =>
    simp only [sim1] at hs
    split at hs
    · rename_i y x r
      simp only [Option.some.injEq, Prod.mk.injEq] at hs
      obtain ⟨rfl, rfl, rfl⟩ := hs
      exact XS.imul X.here hx rfl hd rfl hr
    · cases hs
  case ixor =>
    simp only [sim1] at hs
    split at hs
    · rename_i y x r
      simp only [Option.some.injEq, Prod.mk.injEq] at hs
      obtain ⟨rfl, rfl, rfl⟩ := hs
      exact XT.ixor X.here hx rfl hd rfl hr
    · cases hs
  case ior =>
    simp only [sim1] at hs
    split at hs
    · rename_i y x r
      simp only [Option.some.injEq, Prod.mk.injEq] at hs
      obtain ⟨rfl, rfl, rfl⟩ := hs
      exact XT.ior X.here hx rfl hd rfl hr
    · cases hs
  case ishl =>
    simp only [sim1] at hs
    split at hs
    · rename_i y x r
      simp only [Option.some.injEq, Prod.mk.injEq] at hs
      obtain ⟨rfl, rfl, rfl⟩ := hs
      exact XT.ishl X.here hx rfl hd rfl hr
    · cases hs
  case ishr =>
    simp only [sim1] at hs
    split at hs
    · rename_i y x r
      simp only [Option.some.injEq, Prod.mk.injEq] at hs
      obtain ⟨rfl, rfl, rfl⟩ := hs
      exact XT.ishr X.here hx rfl hd rfl hr
    · cases hs
  case iushr =>
    simp only [sim1] at hs
    split at hs
    · rename_i y x r
      simp only [Option.some.injEq, Prod.mk.injEq] at hs
      obtain ⟨rfl, rfl, rfl⟩ := hs
      exact XT.iushr X.here hx rfl hd rfl hr
    · cases hs
  case ladd =>
    simp only [sim1] at hs
    split at hs
    · rename_i y x r
      simp only [Option.some.injEq, Prod.mk.injEq] at hs
      obtain ⟨rfl, rfl, rfl⟩ := hs
      exact XT.ladd X.here hx rfl hd rfl hr
    · cases hs
  case lsub =>
    simp only [sim1] at hs
    split at hs
    · rename_i y x r
      simp only [Option.some.injEq, Prod.mk.injEq] at hs
      obtain ⟨rfl, rfl, rfl⟩ := hs
      exact XT.lsub X.here hx rfl hd rfl hr
    · cases hs
  case land =>
    simp only [sim1] at hs
    split at hs
    · rename_i y x r
      simp only [Option.some.injEq, Prod.mk.injEq] at hs
      obtain ⟨rfl, rfl, rfl⟩ := hs
      exact XT.land X.here hx rfl hd rfl hr
    · cases hs
  case lor =>
    simp only [sim1] at hs
    split at hs
    · rename_i y x r
      simp only [Option.some.injEq, Prod.mk.injEq] at hs
      obtain ⟨rfl, rfl, rfl⟩ := hs
      exact XT.lor X.here hx rfl hd rfl hr
    · cases hs
  case lxor =>
    simp only [sim1] at hs
    split at hs
    · rename_i y x r
      simp only [Option.some.injEq, Prod.mk.injEq] at hs
      obtain ⟨rfl, rfl, rfl⟩ := hs
      exact XT.lxor X.here hx rfl hd rfl hr
    · cases hs
  case lshl =>
    simp only [sim1] at hs
    split at hs
    · rename_i y x r
      simp only [Option.some.injEq, Prod.mk.injEq] at hs
      obtain ⟨rfl, rfl, rfl⟩ := hs
      exact XT.lshl X.here hx rfl hd rfl hr
    · cases hs
  case lushr =>
    simp only [sim1] at hs
    split at hs
    · rename_i y x r
      simp only [Option.some.injEq, Prod.mk.injEq] at hs
      obtain ⟨rfl, rfl, rfl⟩ := hs
      exact XT.lushr X.here hx rfl hd rfl hr
    · cases hs
  case lcmp =>
    simp only [sim1] at hs
    split at hs
    · rename_i y x r
      simp only [Option.some.injEq, Prod.mk.injEq] at hs
      obtain ⟨rfl, rfl, rfl⟩ := hs
      exact XT.lcmp X.here hx rfl hd rfl hr
    · cases hs
  case ineg =>
    simp only [sim1] at hs
    split at hs
    · rename_i x r
      simp only [Option.some.injEq, Prod.mk.injEq] at hs
      obtain ⟨rfl, rfl, rfl⟩ := hs
      exact XS.ineg X.here hx rfl hd rfl hr
    · cases hs
  case i2b =>
    simp only [sim1] at hs
    split at hs
    · rename_i x r
      simp only [Option.some.injEq, Prod.mk.injEq] at hs
      obtain ⟨rfl, rfl, rfl⟩ := hs
      exact XT.i2b X.here hx rfl hd rfl hr
    · cases hs
  case i2c =>
    simp only [sim1] at hs
    split at hs
    · rename_i x r
      simp only [Option.some.injEq, Prod.mk.injEq] at hs
      obtain ⟨rfl, rfl, rfl⟩ := hs
      exact XT.i2c X.here hx rfl hd rfl hr
    · cases hs
  case i2l =>
    simp only [sim1] at hs
    split at hs
    · rename_i x r
      simp only [Option.some.injEq, Prod.mk.injEq] at hs
      obtain ⟨rfl, rfl, rfl⟩ := hs
      exact XT.i2l X.here hx rfl hd rfl hr
    · cases hs
  case l2i =>
    simp only [sim1] at hs
    split at hs
    · rename_i x r
      simp only [Option.some.injEq, Prod.mk.injEq] at hs
      obtain ⟨rfl, rfl, rfl⟩ := hs
      exact XT.l2i X.here hx rfl hd rfl hr
    · cases hs
  case lneg =>
    simp only [sim1] at hs
    split at hs
    · rename_i x r
      simp only [Option.some.injEq, Prod.mk.injEq] at hs
      obtain ⟨rfl, rfl, rfl⟩ := hs
      exact XT.lneg X.here hx rfl hd rfl hr
    · cases hs
  case dup =>
    simp only [sim1] at hs
    split at hs
    · rename_i x r
      split at hs
      · rename_i hr2
        simp only [Option.some.injEq, Prod.mk.injEq] at hs
        obtain ⟨rfl, rfl, rfl⟩ := hs
        exact XS.dup X.here hx rfl hd rfl hr2 hr
      · cases hs
    · cases hs
  case pop =>
    simp only [sim1] at hs
    split at hs
    · rename_i x r
      split at hs
      · rename_i hr2
        simp only [Option.some.injEq, Prod.mk.injEq] at hs
        obtain ⟨rfl, rfl, rfl⟩ := hs
        exact XT.pop X.here hx rfl hd rfl hr2 hr
      · cases hs
    · cases hs
  case dup_x1 =>
    simp only [sim1] at hs
    split at hs
    · rename_i x y r
      split at hs
      · rename_i hr2
        simp only [Option.some.injEq, Prod.mk.injEq] at hs
        obtain ⟨rfl, rfl, rfl⟩ := hs
        exact XT.dupX1 X.here hx rfl hd rfl hr2.1 hr2.2 hr
      · cases hs
    · cases hs
  case dup2 =>
    simp only [sim1] at hs
    split at hs
    · rename_i x y r
      split at hs
      · rename_i hr2
        simp only [Option.some.injEq, Prod.mk.injEq] at hs
        obtain ⟨rfl, rfl, rfl⟩ := hs
        exact XT.dup2 X.here hx rfl hd rfl hr2.1 hr2.2 hr
      · cases hs
    · cases hs
  case iinc k i =>
    simp only [sim1] at hs
    split at hs
    · rename_i x hv
      split at hs
      · rename_i L hL
        simp only [Option.some.injEq, Prod.mk.injEq] at hs
        obtain ⟨rfl, rfl, rfl⟩ := hs
        exact XS.iinc X.here hx rfl hd hv hL hr
      · cases hs
    · cases hs
  all_goals (simp only [sim1, reduceCtorEq] at hs)
def simL : List (Instr × Nat) → Nat → Array Slot → List Value → Option (Nat × Array Slot × List Value)
  | [], pc, Ls, st => some (pc, Ls, st)
  | q :: r, pc, Ls, st => match sim1 q.1 Ls st with
    | some (n, L, t) => if n = q.2 then simL r (pc + n) L t else none
    | none => none
def decL (bs : ByteArray) : List (Instr × Nat) → Nat → Bool
  | [], _ => true
  | q :: r, pc => decide (decode bs pc = .ok q) && decL bs r (pc + q.2)
theorem simL_ok (X : Stand p l e R s m args below meth c T locs cells slots) (hx : p.tables.exec = Jvm.exec) {target : State} : ∀ (is : List (Instr × Nat)) (pc : Nat) (Ls : Array Slot) (st : List Value), decL c.code is pc = true → simL is pc Ls st = some (pc', Ls', st') → Steps p.tables e below (T.setTop (mkF m pc' Ls' st')) target → Steps p.tables e below (T.setTop (mkF m pc Ls st)) target
  | [], pc, Ls, st, _, h2, h3 => by
    simp only [simL, Option.some.injEq, Prod.mk.injEq] at h2
    obtain ⟨rfl, rfl, rfl⟩ := h2
    exact h3
  | q :: r, pc, Ls, st, h1, h2, h3 => by
    simp only [decL, Bool.and_eq_true, decide_eq_true_eq] at h1
    simp only [simL] at h2
    split at h2
    · rename_i n L t hs
      split at h2
      · rename_i hn
        subst hn
        exact sim1_ok X hx h1.1 hs (simL_ok X hx r _ L t h1.2 h2 h3)
      · cases h2
    · cases h2
theorem Goes.blk (A : Amb bs own mL Z p s m c) (is : List (Instr × Nat)) (h1 : decL bs is pc = true) (h2 : simL is pc Ls st = some (pc', Ls', st')) (nx : Goes p l e R s m args below meth c n0 Q h cells slots pc' Ls' st') : Goes p l e R s m args below meth c n0 Q h cells slots pc Ls st :=
  Goes.step (fun T locs X _ target k => simL_ok X A.1 is pc Ls st (by rw [A.2.1]; exact h1) h2 k) nx
theorem Goes.jump (A : Amb bs own mL Z p s m c) {o : Int} (hd : decode bs pc = .ok (.goto o, 3)) (ho : 0 ≤ (pc : Int) + o) (hp : ((pc : Int) + o).toNat = pc') (nx : Goes p l e R s m args below meth c n0 Q h cells slots pc' Ls st) : Goes p l e R s m args below meth c n0 Q h cells slots pc Ls st :=
  Goes.step (fun T locs X _ target k => XS.goto X.here A.1 rfl rfl (hb A.2.1 hd) ho hp k) nx
/-- what a comparison says, in the whole numbers -/
def cP : ClassFile.Cond → Int32 → Int32 → Prop
  | .eq, x, y => x = y
  | .ne, x, y => ¬ x = y
  | .lt, x, y => x.toInt < y.toInt
  | .ge, x, y => y.toInt ≤ x.toInt
  | .gt, x, y => y.toInt < x.toInt
  | .le, x, y => x.toInt ≤ y.toInt
theorem cP_iff (cd : ClassFile.Cond) (x y : Int32) : if_icmp.holds cd x y = true ↔ cP cd x y := by
  cases cd <;> simp [if_icmp.holds, cP, Int32.lt_iff_toInt_lt, Int32.le_iff_toInt_le]
theorem cP_not {cd : ClassFile.Cond} {x y : Int32} (hn : ¬ cP cd x y) : if_icmp.holds cd x y = false := by
  rw [← cP_iff] at hn; simpa using hn
theorem cP_f {cd : ClassFile.Cond} {x y : Int32} (q : if_icmp.holds cd x y = false) : ¬ cP cd x y := fun hc => by rw [(cP_iff cd x y).mpr hc] at q; cases q
theorem cP_t {cd : ClassFile.Cond} {x y : Int32} (q : if_icmp.holds cd x y = true) : cP cd x y := (cP_iff cd x y).mp q
def cI : ClassFile.Cond → Int → Int → Prop
  | .eq, x, y => x = y
  | .ne, x, y => ¬ x = y
  | .lt, x, y => x < y
  | .ge, x, y => y ≤ x
  | .gt, x, y => y < x
  | .le, x, y => x ≤ y
theorem cP_int {cd : ClassFile.Cond} {x y : Int32} (q : cP cd x y) : cI cd x.toInt y.toInt := by
  cases cd <;> simp only [cP, cI] at q ⊢ <;> first | exact q | exact Int32.toInt_inj.mpr q | exact fun z => q (Int32.toInt_inj.mp z)
theorem cP_nint {cd : ClassFile.Cond} {x y : Int32} (q : ¬ cP cd x y) : ¬ cI cd x.toInt y.toInt := by
  cases cd <;> simp only [cP, cI] at q ⊢ <;> first | exact q | exact fun z => q (Int32.toInt_inj.mp z) | exact fun z => q fun w => z (Int32.toInt_inj.mpr w)
theorem Goes.if1 (A : Amb bs own mL Z p s m c) {cd : ClassFile.Cond} {o : Int} {x : Int32} (hd : decode bs pc = .ok (.ifCond cd o, 3)) (ho : 0 ≤ (pc : Int) + o) (hp : ((pc : Int) + o).toNat = pc') (ny : cP cd x 0 → Goes p l e R s m args below meth c n0 Q h cells slots pc' Ls st) (nn : ¬ cP cd x 0 → Goes p l e R s m args below meth c n0 Q h cells slots (pc + 3) Ls st) : Goes p l e R s m args below meth c n0 Q h cells slots pc Ls (.int x :: st) := by
  by_cases q : cP cd x 0
  · exact Goes.step (fun T locs X _ target k => XS.ifYes X.here A.1 rfl rfl (hb A.2.1 hd) rfl ((if0 _ _).trans ((cP_iff _ _ _).mpr q)) ho hp k) (ny q)
  · exact Goes.step (fun T locs X _ target k => XS.ifNo X.here A.1 rfl (hb A.2.1 hd) rfl ((if0 _ _).trans (cP_not q)) k) (nn q)
theorem Goes.if2 (A : Amb bs own mL Z p s m c) {cd : ClassFile.Cond} {o : Int} {x y : Int32} (hd : decode bs pc = .ok (.if_icmp cd o, 3)) (ho : 0 ≤ (pc : Int) + o) (hp : ((pc : Int) + o).toNat = pc') (ny : cP cd x y → Goes p l e R s m args below meth c n0 Q h cells slots pc' Ls st) (nn : ¬ cP cd x y → Goes p l e R s m args below meth c n0 Q h cells slots (pc + 3) Ls st) : Goes p l e R s m args below meth c n0 Q h cells slots pc Ls (.int y :: .int x :: st) := by
  by_cases q : cP cd x y
  · exact Goes.step (fun T locs X _ target k => XS.icmpYes X.here A.1 rfl rfl (hb A.2.1 hd) rfl ((cP_iff _ _ _).mpr q) ho hp k) (ny q)
  · exact Goes.step (fun T locs X _ target k => XS.icmpNo X.here A.1 rfl (hb A.2.1 hd) rfl (cP_not q) k) (nn q)
def aP : ClassFile.ACond → Value → Value → Prop
  | .eq, x, y => x = y
  | .ne, x, y => ¬ x = y
theorem Goes.ifA (A : Amb bs own mL Z p s m c) {cd : ClassFile.ACond} {o : Int} {x y : Value} (hd : decode bs pc = .ok (.if_acmp cd o, 3)) (hx1 : x.isRef = true) (hy1 : y.isRef = true) (ho : 0 ≤ (pc : Int) + o) (hp : ((pc : Int) + o).toNat = pc') (ny : aP cd x y → Goes p l e R s m args below meth c n0 Q h cells slots pc' Ls st) (nn : ¬ aP cd x y → Goes p l e R s m args below meth c n0 Q h cells slots (pc + 3) Ls st) : Goes p l e R s m args below meth c n0 Q h cells slots pc Ls (y :: x :: st) := by
  by_cases q : aP cd x y
  · exact Goes.step (fun T locs X _ target k => XT.acmpYes X.here A.1 rfl rfl (hb A.2.1 hd) rfl hx1 hy1 (by cases cd <;> simpa [XT.acmp, aP] using q) ho hp k) (ny q)
  · exact Goes.step (fun T locs X _ target k => XT.acmpNo X.here A.1 rfl (hb A.2.1 hd) rfl hx1 hy1 (by cases cd <;> simpa [XT.acmp, aP] using q) k) (nn q)
theorem Goes.ifNullY (A : Amb bs own mL Z p s m c) {o : Int} (hd : decode bs pc = .ok (.ifnull o, 3)) (ho : 0 ≤ (pc : Int) + o) (hp : ((pc : Int) + o).toNat = pc') (nx : Goes p l e R s m args below meth c n0 Q h cells slots pc' Ls st) : Goes p l e R s m args below meth c n0 Q h cells slots pc Ls (.null :: st) :=
  Goes.step (fun T locs X _ target k => XS.ifnullYes X.here A.1 rfl rfl (hb A.2.1 hd) rfl ho hp k) nx
theorem Goes.ifNullN (A : Amb bs own mL Z p s m c) {o : Int} {b : Addr} (hd : decode bs pc = .ok (.ifnull o, 3)) (nx : Goes p l e R s m args below meth c n0 Q h cells slots (pc + 3) Ls st) : Goes p l e R s m args below meth c n0 Q h cells slots pc Ls (.ref b :: st) :=
  Goes.step (fun T locs X _ target k => XS.ifnullNo X.here A.1 rfl (hb A.2.1 hd) rfl k) nx
theorem Goes.ifNonN (A : Amb bs own mL Z p s m c) {o : Int} (hd : decode bs pc = .ok (.ifnonnull o, 3)) (nx : Goes p l e R s m args below meth c n0 Q h cells slots (pc + 3) Ls st) : Goes p l e R s m args below meth c n0 Q h cells slots pc Ls (.null :: st) :=
  Goes.step (fun T locs X _ target k => XT.ifnonnullNo X.here A.1 rfl (hb A.2.1 hd) rfl k) nx
theorem Goes.ifNonY (A : Amb bs own mL Z p s m c) {o : Int} {b : Addr} (hd : decode bs pc = .ok (.ifnonnull o, 3)) (ho : 0 ≤ (pc : Int) + o) (hp : ((pc : Int) + o).toNat = pc') (nx : Goes p l e R s m args below meth c n0 Q h cells slots pc' Ls st) : Goes p l e R s m args below meth c n0 Q h cells slots pc Ls (.ref b :: st) :=
  Goes.step (fun T locs X _ target k => XT.ifnonnullYes X.here A.1 rfl rfl (hb A.2.1 hd) rfl ho hp k) nx
theorem Goes.irem (A : Amb bs own mL Z p s m c) {x y : Int32} (hd : decode bs pc = .ok (.irem, 1)) (hy : y ≠ 0) (nx : Goes p l e R s m args below meth c n0 Q h cells slots (pc + 1) Ls (.int (x % y) :: st)) : Goes p l e R s m args below meth c n0 Q h cells slots pc Ls (.int y :: .int x :: st) :=
  Goes.step (fun T locs X _ target k => iremM X A.1 rfl (hb A.2.1 hd) rfl hy k) nx
theorem Goes.ldcI (A : Amb bs own mL Z p s m c) {index : Nat} {v : Int32} (w : (Cond.constant own index v).before a0 Z = true) (hd : decode bs pc = .ok (.ldc index, 2)) (nx : Goes p l e R s m args below meth c n0 Q h cells slots (pc + 2) Ls (.int v :: st)) : Goes p l e R s m args below meth c n0 Q h cells slots pc Ls st :=
  Goes.step (fun T locs X _ target k => Jvm.Stand.ldcI X A.1 A.2.2.2.1 (mvT A.2.2.1 w) rfl (hb A.2.1 hd) k) nx
theorem Goes.swIn (A : Amb bs own mL Z p s m c) {dflt low high : Int} {offs : Array Int} {len : Nat} {o : Int} {i : Int32} (hd : decode bs pc = .ok (.tableswitch dflt low high offs, len)) (hin : ¬ (i.toInt < low ∨ i.toInt > high)) (hoff : offs[(i.toInt - low).toNat]? = some o) (ho : 0 ≤ (pc : Int) + o) (hp : ((pc : Int) + o).toNat = pc') (nx : Goes p l e R s m args below meth c n0 Q h cells slots pc' Ls st) : Goes p l e R s m args below meth c n0 Q h cells slots pc Ls (.int i :: st) :=
  Goes.step (fun T locs X _ target k => XS.tswIn X.here A.1 rfl rfl (hb A.2.1 hd) rfl hin hoff ho hp k) nx
theorem Goes.getS (A : Amb bs own mL Z p s m c) {R0 O n d : String} {index : Nat} {v : Value} (w : (Cond.fieldLink own index R0 n d).before a0 Z = true) (via : Via Z R0 O n d) (F : Sta Z h O n d v) (hd : decode bs pc = .ok (.getstatic index, 3)) (nx : Goes p l e R s m args below meth c n0 Q h cells slots (pc + 3) Ls (v :: st)) : Goes p l e R s m args below meth c n0 Q h cells slots pc Ls st :=
  Goes.stay (fun T locs X eT => Jvm.RoadKit.getS (host := "") (g := mkF m pc Ls st) X A.1 A.2.2.1 A.2.2.2.1 w via eT F rfl (hb A.2.1 hd)) nx
theorem Goes.getF (A : Amb bs own mL Z p s m c) {R0 O n d : String} {index : Nat} {v : Value} {a : Addr} (w : (Cond.fieldLink own index R0 n d).before a0 Z = true) (via : Via Z R0 O n d) (F : Fld Z h a O n d v) (hd : decode bs pc = .ok (.getfield index, 3)) (nx : Goes p l e R s m args below meth c n0 Q h cells slots (pc + 3) Ls (v :: st)) : Goes p l e R s m args below meth c n0 Q h cells slots pc Ls (.ref a :: st) :=
  Goes.stay (fun T locs X eT => Jvm.RoadKit.getF (host := "") (g := mkF m pc Ls (.ref a :: st)) X A.1 A.2.2.1 A.2.2.2.1 (Or.inl w) via eT F rfl rfl (hb A.2.1 hd)) nx
theorem Goes.retV (A : Amb bs own mL Z p s m c) (hret : meth.sig.returnType = none) (hlk : meth.locks = false) (hd : decode bs pc = .ok (.return_, 1)) (hc : cells ≤ R.cells) (hs : slots ≤ R.slots) (hQ : Q none h) : Goes p l e R s m args below meth c n0 Q h cells slots pc Ls [] := by
  intro T locs X N eT
  obtain ⟨fs, hr, hrun, hended, hW, hsame⟩ := X.leave (v := none) (fun _ => rfl) hlk
  exact ⟨_, none, locs, X.returnOut A.1 hret (hb A.2.1 hd) hr, hrun, hended, (by subst eT; exact hQ), N, ⟨_, rfl⟩, hW, hsame.mono hc hs⟩
theorem Goes.retB (A : Amb bs own mL Z p s m c) {t : FieldType} {z z' : Int32} (hret : meth.sig.returnType = some t) (ht : t = .boolean ∨ t = .byte ∨ t = .char ∨ t = .short) (hlk : meth.locks = false) (hd : decode bs pc = .ok (.ireturn, 1)) (hn : nar t z = z') (hc : cells ≤ R.cells) (hs : slots ≤ R.slots) (hQ : Q (some (.int z')) h) : Goes p l e R s m args below meth c n0 Q h cells slots pc Ls (.int z :: st) := by
  subst hn
  intro T locs X N eT
  obtain ⟨fs, hr, hrun, hended, hW, hsame⟩ := X.leave (v := some (.int (nar t z))) (fun q => by rw [hret] at q; cases q) hlk
  exact ⟨_, some (.int (nar t z)), locs, retN X A.1 hret ht (hb A.2.1 hd) hr, hrun, hended, (by subst eT; exact hQ), N, ⟨_, rfl⟩, hW, hsame.mono hc hs⟩
theorem Goes.retI (A : Amb bs own mL Z p s m c) {z : Int32} (hret : meth.sig.returnType = some .int) (hlk : meth.locks = false) (hd : decode bs pc = .ok (.ireturn, 1)) (hc : cells ≤ R.cells) (hs : slots ≤ R.slots) (hQ : Q (some (.int z)) h) : Goes p l e R s m args below meth c n0 Q h cells slots pc Ls (.int z :: st) := by
  intro T locs X N eT
  obtain ⟨fs, hr, hrun, hended, hW, hsame⟩ := X.leave (v := some (.int z)) (fun q => by rw [hret] at q; cases q) hlk
  exact ⟨_, some (.int z), locs, retOut X A.1 hret rfl (Or.inl ⟨rfl, Or.inl rfl, z, rfl⟩) (hb A.2.1 hd) hr, hrun, hended, (by subst eT; exact hQ), N, ⟨_, rfl⟩, hW, hsame.mono hc hs⟩
theorem Goes.retA (A : Amb bs own mL Z p s m c) {t : FieldType} {v : Value} (hret : meth.sig.returnType = some t) (ht : t.isReference = true) (hv : v.isRef = true) (hn : narrow t v = v) (hlk : meth.locks = false) (hd : decode bs pc = .ok (.areturn, 1)) (hc : cells ≤ R.cells) (hs : slots ≤ R.slots) (hQ : Q (some v) h) : Goes p l e R s m args below meth c n0 Q h cells slots pc Ls (v :: st) := by
  intro T locs X N eT
  obtain ⟨fs, hr, hrun, hended, hW, hsame⟩ := X.leave (v := some v) (fun q => by rw [hret] at q; cases q) hlk
  exact ⟨_, some v, locs, retOut X A.1 hret hn (Or.inr (Or.inr (Or.inr (Or.inr ⟨rfl, ht, hv⟩)))) (hb A.2.1 hd) hr, hrun, hended, (by subst eT; exact hQ), N, ⟨_, rfl⟩, hW, hsame.mono hc hs⟩
/-- a body's contract: called with these arguments at this heap it returns, and Qc holds; what it writes lies at or above n0 -/
def Con (l : Launch) (Z : State) (n0 : Nat) (y : MethodName) (bs : ByteArray) (mL : Nat) (ret : Option FieldType) (rm : Room) (as : Array Value) (h : Heap) (Qc : Option Value → Heap → Prop) : Prop :=
  ∀ ws : List Jvm.Cond, MetFree l y (head1 (Jvm.Cond.code y bs mL ret :: ws) rm) (fun a U => a = as ∧ Z.Warmed39 U.vm ∧ U.heap = h) (fun _ _ _ _ _ => True) (fun _ U o U' => ∃ v L, o = .returned v ∧ (Qc v U'.heap ∧ Fr n0 L) ∧ FrameEnd U o U' L rm.cells rm.slots)
theorem Con.mk {y : MethodName} {ret : Option FieldType} {as : Array Value} {rm : Room} (hpn : plainName y.cls = true) (hef : ∀ m, entryFrame m as mL = mkF m 0 Ls [])
    (body : ∀ (p : Program) (e : Env) (s : State) (m : MethodId) (below : List Frame) (meth : Method) (c : Code), Amb bs y.cls mL Z p s m c → meth.sig.returnType = ret → meth.locks = false → meth.name = y.name → Goes p l e rm s m as below meth c n0 Q h 0 0 0 Ls []) : Con l Z n0 y bs mL ret rm as h Q := by
  intro ws
  refine MetFree.of_bodySF (plainFor_of_name hpn) hisR ?_
  intro p e s m args below meth c s₁ Bd hml0 hP hK
  obtain ⟨rfl, hZ, hh⟩ := hP
  have X0 : Stand p l e rm s m _ below meth c s₁ [] 0 0 := Stand.of_body Bd
  have e0 : s₁.heap = h := by rw [← hh, Bd.state]; rfl
  obtain ⟨s₂, v, L, h1, h2, h3, h4, h5, h6⟩ := body p e s m below meth c ⟨Bd.exec, Bd.bytes, hZ, findClass_of_methodNamed Bd.named, hml0⟩ Bd.returns (BodyLoose.notSynchronized Bd) (name_of_methodNamed Bd.named Bd.method).1 s₁ [] X0 (Fr.nil _) e0
  exact ⟨s₂, _, castTop (hef m) h1, h2, h3, v, L, rfl, ⟨h4, h5⟩, h6⟩
theorem Con.mono {y : MethodName} {ret : Option FieldType} {as : Array Value} {rm : Room} {Q' : Option Value → Heap → Prop} (K : Con l Z n0 y bs mL ret rm as h Q) (f : ∀ v h', Q v h' → Q' v h') : Con l Z n0 y bs mL ret rm as h Q' := by
  intro ws p e h1 h2 h3 s m args below h4 h5 h6 h7
  obtain ⟨n, o, g1, g2, g3, v, L, g4, g5, g6⟩ := K ws p e h1 h2 h3 s m args below h4 h5 h6 h7
  exact ⟨n, o, g1, g2, g3, v, L, g4, ⟨f _ _ g5.1, g5.2⟩, g6⟩
theorem Goes.static (A : Amb bs own mL Z p s m c) {index : Nat} {y : MethodName} {bc : ByteArray} {mC W : Nat} {ret : Option FieldType} {rm : Room} {argsL : List Value} {Qc : Option Value → Heap → Prop} {ps : List FieldType} {r : Option FieldType}
    (hlink : (Jvm.Cond.methodLink own index y).before a0 Z = true) (hstat : (Jvm.Cond.static y).before a0 Z = true) (hinit : (Jvm.Cond.initialized y.cls).before a0 Z = true) (hcode : (Jvm.Cond.code y bc mC ret).before a0 Z = true)
    (hd : decode bs pc = .ok (.invokestatic index, 3)) (hlen : parseMethodDescriptor y.desc = some ⟨ps, r⟩) (hy : y.cls ≠ "java/lang/invoke/MethodHandle" ∧ y.cls ≠ "java/lang/invoke/VarHandle")
    (hl : argsL.length = ps.length) (hst : st = argsL.reverse ++ rest) (hsz : Ls.size = mL) (hW : (rest.map fun v => v.category).sum ≤ W)
    (hf : rm.frames + 1 ≤ R.frames) (hlo : W + (mC + 11) + rm.locals ≤ R.locals) (hcl : cells + rm.cells ≤ R.cells) (hsl : slots + rm.slots ≤ R.slots)
    (K : Con l Z n0 y bc mC ret rm argsL.toArray h Qc)
    (nx : ∀ (v : Option Value) (h' : Heap), Qc v h' → Goes p l e R s m args below meth c n0 Q h' (cells + rm.cells) (slots + rm.slots) (pc + 3) Ls (v.toList ++ rest)) : Goes p l e R s m args below meth c n0 Q h cells slots pc Ls st := by
  intro T locs X N eT
  obtain ⟨v, _, ⟨T', L', k', n'⟩, -, X', ⟨Lc, hQ, q1, q2, q3⟩, stp⟩ := Jvm.LawKit.callS X A.1 A.2.2.2.1 (mvT A.2.2.1 hlink) (mvT A.2.2.1 hstat) (mvT A.2.2.1 hinit) (mvT A.2.2.1 hcode) hy (backOf (Q := fun v h' L => Qc v h' ∧ Fr n0 L) (W := W) (K []) A.2.2.1 hcode hinit hf hlo) (g := mkF m pc Ls st) rfl (by rw [A.2.2.2.2]; exact hsz) (argsL := argsL) (rest := rest) (lenOf hlen hl) hst (by show 2 * 0 + _ ≤ _; omega) (hb A.2.1 hd) (fun _ _ => ⟨rfl, eT, hcl, hsl⟩)
  dsimp only [Pt.U, Pt.locs, Pt.cells, Pt.slots] at X' q1 q2 q3 stp hQ
  subst q1 q2 q3
  obtain ⟨s₂, v2, L2, h1, r2⟩ := nx v T'.heap hQ.1 T' _ X' (Fr.app N hQ.2) rfl
  exact ⟨s₂, v2, L2, stp _ h1, r2⟩
theorem Goes.virt (A : Amb bs own mL Z p s m c) {index : Nat} {y z : MethodName} {C : String} {bc : ByteArray} {mC W : Nat} {ret : Option FieldType} {rm : Room} {a : Addr} {argsL : List Value} {Qc : Option Value → Heap → Prop} {ps : List FieldType} {r : Option FieldType}
    (hlink : (Jvm.Cond.methodLink own index y).before a0 Z = true) (hdecl : (Jvm.Cond.declares y).before a0 Z = true) (hsy : (Jvm.Cond.selects y.cls y y).before a0 Z = true) (hsel : (Jvm.Cond.selects C y z).before a0 Z = true) (hinst : (Jvm.Cond.instanceMethod z).before a0 Z = true) (hinit : (Jvm.Cond.initialized z.cls).before a0 Z = true) (hcode : (Jvm.Cond.code z bc mC ret).before a0 Z = true)
    (hd : decode bs pc = .ok (.invokevirtual index, 3)) (hlen : parseMethodDescriptor y.desc = some ⟨ps, r⟩) (hy : y.cls ≠ "java/lang/invoke/MethodHandle" ∧ y.cls ≠ "java/lang/invoke/VarHandle")
    (E : Exa Z h a C) (hl : argsL.length = ps.length) (hst : st = argsL.reverse ++ .ref a :: rest) (hsz : Ls.size = mL) (hW : (rest.map fun v => v.category).sum ≤ W)
    (hf : rm.frames + 1 ≤ R.frames) (hlo : W + (mC + 11) + rm.locals ≤ R.locals) (hcl : cells + rm.cells ≤ R.cells) (hsl : slots + rm.slots ≤ R.slots)
    (K : Con l Z n0 z bc mC ret rm (.ref a :: argsL).toArray h Qc)
    (nx : ∀ (v : Option Value) (h' : Heap), Qc v h' → Goes p l e R s m args below meth c n0 Q h' (cells + rm.cells) (slots + rm.slots) (pc + 3) Ls (v.toList ++ rest)) : Goes p l e R s m args below meth c n0 Q h cells slots pc Ls st := by
  intro T locs X N eT
  obtain ⟨cq, kq, qa, qb, qc⟩ := isOf A.2.2.1 eT E
  obtain ⟨v, _, ⟨T', L', k', n'⟩, -, X', ⟨Lc, hQ, q1, q2, q3⟩, stp⟩ := X.virtualBack A.1 (y := y) (z := z) A.2.2.2.1 (mvT A.2.2.1 hlink) (mvT A.2.2.1 hdecl) (notFace_of_selects (args := #[]) (mvT A.2.2.1 hsy)) (mvT A.2.2.1 hsel) (mvT A.2.2.1 hinst) hy (backOf (Q := fun v h' L => Qc v h' ∧ Fr n0 L) (W := W) (K []) A.2.2.1 hcode hinit hf hlo) qa qc (g := mkF m pc Ls st) rfl (by rw [A.2.2.2.2]; exact hsz) (Steps.refl _) (argsL := argsL) (rest := rest) (lenOf hlen hl) hst (by show 2 * 0 + _ ≤ _; omega) (hb A.2.1 hd) (fun _ _ => ⟨rfl, eT, hcl, hsl⟩)
  dsimp only [Pt.U, Pt.locs, Pt.cells, Pt.slots] at X' q1 q2 q3 stp hQ
  subst q1 q2 q3
  obtain ⟨s₂, v2, L2, h1, r2⟩ := nx v T'.heap hQ.1 T' _ X' (Fr.app N hQ.2) rfl
  exact ⟨s₂, v2, L2, stp.trans h1, r2⟩
theorem Goes.virtU (A : Amb bs own mL Z p s m c) {index : Nat} {y z : MethodName} {C owner : String} {bc : ByteArray} {mC W : Nat} {ret : Option FieldType} {rm : Room} {a : Addr} {argsL : List Value} {Qc : Option Value → Heap → Prop} {ps : List FieldType} {r : Option FieldType}
    (hlink : (Jvm.Cond.methodLink own index y).before a0 Z = true) (hsame : (Jvm.Cond.sameMethod y.cls owner y.name y.desc).before a0 Z = true) (hdecl : (Jvm.Cond.declares ⟨owner, y.name, y.desc⟩).before a0 Z = true) (hsel : (Jvm.Cond.selects C y z).before a0 Z = true) (hinst : (Jvm.Cond.instanceMethod z).before a0 Z = true) (hinit : (Jvm.Cond.initialized z.cls).before a0 Z = true) (hcode : (Jvm.Cond.code z bc mC ret).before a0 Z = true)
    (hd : decode bs pc = .ok (.invokevirtual index, 3)) (hlen : parseMethodDescriptor y.desc = some ⟨ps, r⟩) (hy : owner ≠ "java/lang/invoke/MethodHandle" ∧ owner ≠ "java/lang/invoke/VarHandle")
    (E : Exa Z h a C) (hl : argsL.length = ps.length) (hst : st = argsL.reverse ++ .ref a :: rest) (hsz : Ls.size = mL) (hW : (rest.map fun v => v.category).sum ≤ W)
    (hf : rm.frames + 1 ≤ R.frames) (hlo : W + (mC + 11) + rm.locals ≤ R.locals) (hcl : cells + rm.cells ≤ R.cells) (hsl : slots + rm.slots ≤ R.slots)
    (K : Con l Z n0 z bc mC ret rm (.ref a :: argsL).toArray h Qc)
    (nx : ∀ (v : Option Value) (h' : Heap), Qc v h' → Goes p l e R s m args below meth c n0 Q h' (cells + rm.cells) (slots + rm.slots) (pc + 3) Ls (v.toList ++ rest)) : Goes p l e R s m args below meth c n0 Q h cells slots pc Ls st := by
  intro T locs X N eT
  obtain ⟨cq, kq, qa, qb, qc⟩ := isOf A.2.2.1 eT E
  obtain ⟨v, _, ⟨T', L', k', n'⟩, -, X', ⟨Lc, hQ, q1, q2, q3⟩, stp⟩ := X.virtualBackUp A.1 (x := y) (y := z) (owner := owner) A.2.2.2.1 (mvT A.2.2.1 hlink) (mvT A.2.2.1 hsame) (mvT A.2.2.1 hdecl) hy (mvT A.2.2.1 hsel) (mvT A.2.2.1 hinst) (backOf (Q := fun v h' L => Qc v h' ∧ Fr n0 L) (W := W) (K []) A.2.2.1 hcode hinit hf hlo) qa qc (g := mkF m pc Ls st) rfl (by rw [A.2.2.2.2]; exact hsz) (Steps.refl _) (argsL := argsL) (rest := rest) (lenOf hlen hl) hst (by show 2 * 0 + _ ≤ _; omega) (hb A.2.1 hd) (fun _ _ => ⟨rfl, eT, hcl, hsl⟩)
  dsimp only [Pt.U, Pt.locs, Pt.cells, Pt.slots] at X' q1 q2 q3 stp hQ
  subst q1 q2 q3
  obtain ⟨s₂, v2, L2, h1, r2⟩ := nx v T'.heap hQ.1 T' _ X' (Fr.app N hQ.2) rfl
  exact ⟨s₂, v2, L2, stp.trans h1, r2⟩
theorem Goes.spec (A : Amb bs own mL Z p s m c) {index : Nat} {y : MethodName} {bc : ByteArray} {mC W : Nat} {rm : Room} {a : Addr} {argsL : List Value} {Qc : Option Value → Heap → Prop} {ps : List FieldType} {r : Option FieldType} (hy1 : y.name = "<init>")
    (hlink : (Jvm.Cond.methodLink own index y).before a0 Z = true) (hinst : (Jvm.Cond.instanceMethod y).before a0 Z = true) (hinit : (Jvm.Cond.initialized y.cls).before a0 Z = true) (hcode : (Jvm.Cond.code y bc mC none).before a0 Z = true)
    (hd : decode bs pc = .ok (.invokespecial index, 3)) (hlen : parseMethodDescriptor y.desc = some ⟨ps, r⟩) (hy : y.cls ≠ "java/lang/invoke/MethodHandle" ∧ y.cls ≠ "java/lang/invoke/VarHandle")
    (hl : argsL.length = ps.length) (hst : st = argsL.reverse ++ .ref a :: rest) (hsz : Ls.size = mL) (hW : (rest.map fun v => v.category).sum ≤ W)
    (hf : rm.frames + 1 ≤ R.frames) (hlo : W + (mC + 11) + rm.locals ≤ R.locals) (hcl : cells + rm.cells ≤ R.cells) (hsl : slots + rm.slots ≤ R.slots)
    (K : Con l Z n0 y bc mC none rm (.ref a :: argsL).toArray h Qc)
    (nx : ∀ (v : Option Value) (h' : Heap), Qc v h' → Goes p l e R s m args below meth c n0 Q h' (cells + rm.cells) (slots + rm.slots) (pc + 3) Ls (v.toList ++ rest)) : Goes p l e R s m args below meth c n0 Q h cells slots pc Ls st := by
  intro T locs X N eT
  obtain ⟨v, _, ⟨T', L', k', n'⟩, -, X', ⟨Lc, hQ, q1, q2, q3⟩, stp⟩ := X.specialBack A.1 (y := y) hy1 A.2.2.2.1 (mvT A.2.2.1 hlink) (mvT A.2.2.1 hinst) (mvT A.2.2.1 hcode) hy (backOf (Q := fun v h' L => Qc v h' ∧ Fr n0 L) (W := W) (K []) A.2.2.1 hcode hinit hf hlo) (g := mkF m pc Ls st) rfl (by rw [A.2.2.2.2]; exact hsz) (Steps.refl _) (a := a) (argsL := argsL) (rest := rest) (lenOf hlen hl) hst (by show 2 * 0 + _ ≤ _; omega) (hb A.2.1 hd) (fun _ _ => ⟨rfl, eT, hcl, hsl⟩)
  dsimp only [Pt.U, Pt.locs, Pt.cells, Pt.slots] at X' q1 q2 q3 stp hQ
  subst q1 q2 q3
  obtain ⟨s₂, v2, L2, h1, r2⟩ := nx v T'.heap hQ.1 T' _ X' (Fr.app N hQ.2) rfl
  exact ⟨s₂, v2, L2, stp.trans h1, r2⟩
end Own
theorem b1_0_1 : decL prog_85_method_5_code [(.aload_n 0, 1)] 0 = true := by decide +kernel
theorem d1_1 : decode prog_85_method_5_code 1 = .ok (.getfield 42, 3) := by decide +kernel
theorem b1_4_1 : decL prog_85_method_5_code [(.iload_n 1, 1)] 4 = true := by decide +kernel
theorem d1_5 : decode prog_85_method_5_code 5 = .ok (.if_icmp .gt 15, 3) := by decide +kernel
theorem b1_20_1 : decL prog_85_method_5_code [(.iconst 0, 1)] 20 = true := by decide +kernel
theorem d1_21 : decode prog_85_method_5_code 21 = .ok (.ireturn, 1) := by decide +kernel
theorem b1_8_2 : decL prog_85_method_5_code [(.iload_n 1, 1), (.aload_n 0, 1)] 8 = true := by decide +kernel
theorem d1_10 : decode prog_85_method_5_code 10 = .ok (.getfield 46, 3) := by decide +kernel
theorem d1_13 : decode prog_85_method_5_code 13 = .ok (.if_icmp .gt 7, 3) := by decide +kernel
theorem b1_16_1 : decL prog_85_method_5_code [(.iconst 1, 1)] 16 = true := by decide +kernel
theorem d1_17 : decode prog_85_method_5_code 17 = .ok (.goto 4, 3) := by decide +kernel
theorem ef1_ri (x0 : Addr) (x1 : Int32) (m : MethodId) : entryFrame m #[(.ref x0), (.int x1)] 2 = mkF m 0 #[.val (.ref x0), .val (.int x1)] [] := by first | (simp [entryFrame, mkF, argsToLocals, Value.category]; done) | rfl
theorem pn_carewill_validate_Cardinality : plainName "carewill/validate/Cardinality" = true := by first | (simp [plainName, overriddenIn]; done) | decide +kernel
theorem b0_3_1 : decL code [(.iload_n 0, 1)] 3 = true := by decide +kernel
theorem pd_727780 : parseMethodDescriptor "(I)Z" = some ⟨[.int], some .boolean⟩ := by decide +kernel
theorem b0_7_2 : decL code [(.iload_n 0, 1), (.iconst 1, 1)] 7 = true := by decide +kernel
theorem b0_16_1 : decL code [(.iconst 0, 1)] 16 = true := by decide +kernel
theorem b0_20_1 : decL code [(.iconst 1, 1)] 20 = true := by decide +kernel
theorem b0_25_1 : decL code [(.istore_n 1, 1)] 25 = true := by decide +kernel
theorem b0_29_1 : decL code [(.iload_n 0, 1)] 29 = true := by decide +kernel
theorem b0_33_1 : decL code [(.iload_n 0, 1)] 33 = true := by decide +kernel
theorem b0_37_2 : decL code [(.iload_n 0, 1), (.iconst 1, 1)] 37 = true := by decide +kernel
theorem b0_46_1 : decL code [(.iconst 0, 1)] 46 = true := by decide +kernel
theorem b0_50_1 : decL code [(.iconst 1, 1)] 50 = true := by decide +kernel
theorem b0_55_1 : decL code [(.istore_n 2, 1)] 55 = true := by decide +kernel
theorem b0_59_1 : decL code [(.iload_n 0, 1)] 59 = true := by decide +kernel
theorem b0_63_2 : decL code [(.iload_n 0, 1), (.iconst 1, 1)] 63 = true := by decide +kernel
theorem b0_72_1 : decL code [(.iconst 0, 1)] 72 = true := by decide +kernel
theorem b0_76_1 : decL code [(.iconst 1, 1)] 76 = true := by decide +kernel
theorem b0_81_1 : decL code [(.istore_n 3, 1)] 81 = true := by decide +kernel
theorem b0_85_1 : decL code [(.iload_n 0, 1)] 85 = true := by decide +kernel
theorem b0_89_1 : decL code [(.iload_n 0, 1)] 89 = true := by decide +kernel
theorem b0_97_1 : decL code [(.iconst 0, 1)] 97 = true := by decide +kernel
theorem b0_101_1 : decL code [(.iconst 1, 1)] 101 = true := by decide +kernel
theorem b0_106_1 : decL code [(.istore 4, 2)] 106 = true := by decide +kernel
theorem b0_111_1 : decL code [(.iload_n 0, 1)] 111 = true := by decide +kernel
theorem b0_115_1 : decL code [(.iload_n 0, 1)] 115 = true := by decide +kernel
theorem b0_123_1 : decL code [(.iconst 0, 1)] 123 = true := by decide +kernel
theorem b0_127_1 : decL code [(.iconst 1, 1)] 127 = true := by decide +kernel
theorem b0_132_2 : decL code [(.istore 5, 2), (.iload_n 1, 1)] 132 = true := by decide +kernel
theorem b0_138_1 : decL code [(.iload_n 2, 1)] 138 = true := by decide +kernel
theorem b0_142_1 : decL code [(.iload_n 3, 1)] 142 = true := by decide +kernel
theorem b0_146_1 : decL code [(.iload 4, 2)] 146 = true := by decide +kernel
theorem b0_151_1 : decL code [(.iload 5, 2)] 151 = true := by decide +kernel
theorem b0_156_1 : decL code [(.iconst 1, 1)] 156 = true := by decide +kernel
theorem ef0_i (x0 : Int32) (m : MethodId) : entryFrame m #[(.int x0)] maxLocals = mkF m 0 #[.val (.int x0), .unset, .unset, .unset, .unset, .unset] [] := by first | (simp [entryFrame, mkF, argsToLocals, Value.category, maxLocals]; done) | rfl
theorem pn_carewill_validate_CardinalityAllowsPinLaw : plainName "carewill/validate/CardinalityAllowsPinLaw" = true := by first | (simp [plainName, overriddenIn]; done) | decide +kernel
theorem b0_42_1 : decL code [(.iconst 1, 1)] 42 = true := by decide +kernel
theorem b0_93_1 : decL code [(.iconst 1, 1)] 93 = true := by decide +kernel
theorem b0_119_1 : decL code [(.iconst 1, 1)] 119 = true := by decide +kernel
theorem b0_12_1 : decL code [(.iconst 1, 1)] 12 = true := by decide +kernel
theorem b0_68_1 : decL code [(.iconst 1, 1)] 68 = true := by decide +kernel
set_option maxRecDepth 65536 in
set_option maxHeartbeats 40000000 in
theorem k1 (l : Launch) (Z : State) (n0 : Nat) (a0 : Array Value) (hw : ∀ d ∈ tables_1, d.before a0 Z = true) (h : Heap) (a : Addr) (n lo hi z : Int32) (hz : z = if lo.toInt ≤ n.toInt ∧ n.toInt ≤ hi.toInt then 1 else 0) (Fmin : Fld Z h a "carewill/validate/Cardinality" "min" "I" (.int lo)) (Fmax : Fld Z h a "carewill/validate/Cardinality" "max" "I" (.int hi)) : Con l Z n0 (⟨"carewill/validate/Cardinality", "allows", "(I)Z"⟩ : MethodName) prog_85_method_5_code 2 (some .boolean) ({ frames := 0, cells := 0, slots := 0, locals := 0 } : Room) #[(.ref a), (.int n)] h (fun v h' => v = some (.int z) ∧ h = h') := by
  refine Con.mk (Ls := #[.val (.ref a), .val (.int n)]) pn_carewill_validate_Cardinality (ef1_ri a n) ?_
  intro p e s m below meth c A hret hlk hnm
  refine Goes.blk A _ b1_0_1 (pc' := 1) (Ls' := #[.val (.ref a), .val (.int n)]) (st' := [(.ref a)]) rfl ?_
  refine Goes.getF A (hw _ (List.mem_of_getElem? (i := 8) rfl)) Via.refl Fmin d1_1 ?_
  refine Goes.blk A _ b1_4_1 (pc' := 5) (Ls' := #[.val (.ref a), .val (.int n)]) (st' := [(.int n), (.int lo)]) rfl ?_
  refine Goes.if2 A d1_5 (by decide) (pc' := 20) (by decide) (fun hc1 => ?_) (fun hc1 => ?_)
  · skip
    have q9 := cP_int hc1
    simp only [cI] at q9
    refine Goes.blk A _ b1_20_1 (pc' := 21) (Ls' := #[.val (.ref a), .val (.int n)]) (st' := [(.int (0 : Int32))]) rfl ?_
    exact Goes.retB A hret (by simp) hlk d1_21 (z' := 0) (by decide) (by decide) (by decide) ⟨by rw [hz, if_neg (by omega)], rfl⟩
  have q1 := cP_nint hc1
  simp only [cI] at q1
  refine Goes.blk A _ b1_8_2 (pc' := 10) (Ls' := #[.val (.ref a), .val (.int n)]) (st' := [(.ref a), (.int n)]) rfl ?_
  refine Goes.getF A (hw _ (List.mem_of_getElem? (i := 12) rfl)) Via.refl Fmax d1_10 ?_
  refine Goes.if2 A d1_13 (by decide) (pc' := 20) (by decide) (fun hc2 => ?_) (fun hc2 => ?_)
  · skip
    have q9 := cP_int hc2
    simp only [cI] at q9
    refine Goes.blk A _ b1_20_1 (pc' := 21) (Ls' := #[.val (.ref a), .val (.int n)]) (st' := [(.int (0 : Int32))]) rfl ?_
    exact Goes.retB A hret (by simp) hlk d1_21 (z' := 0) (by decide) (by decide) (by decide) ⟨by rw [hz, if_neg (by omega)], rfl⟩
  have q2 := cP_nint hc2
  simp only [cI] at q2
  refine Goes.blk A _ b1_16_1 (pc' := 17) (Ls' := #[.val (.ref a), .val (.int n)]) (st' := [(.int (1 : Int32))]) rfl ?_
  refine Goes.jump A d1_17 (by decide) (pc' := 21) (by decide) ?_
  exact Goes.retB A hret (by simp) hlk d1_21 (z' := 1) (by decide) (by decide) (by decide) ⟨by rw [hz, if_pos (by omega)], rfl⟩
set_option maxRecDepth 65536 in
set_option maxHeartbeats 40000000 in
theorem k0_m (l : Launch) (Z : State) (n0 : Nat) (a0 : Array Value) (hw : ∀ d ∈ tables_1, d.before a0 Z = true) (h : Heap) (p1 : Int32) (hn : p1.toInt < 0) (a_EXACTLY_ONE : Addr) (S_EXACTLY_ONE : Sta Z h "carewill/validate/Cardinality" "EXACTLY_ONE" "Lcarewill/validate/Cardinality;" (.ref a_EXACTLY_ONE)) (E_EXACTLY_ONE : Exa Z h a_EXACTLY_ONE "carewill/validate/Cardinality") (F_EXACTLY_ONE_min : Fld Z h a_EXACTLY_ONE "carewill/validate/Cardinality" "min" "I" (.int (1 : Int32))) (F_EXACTLY_ONE_max : Fld Z h a_EXACTLY_ONE "carewill/validate/Cardinality" "max" "I" (.int (1 : Int32))) (a_ZERO_OR_ONE : Addr) (S_ZERO_OR_ONE : Sta Z h "carewill/validate/Cardinality" "ZERO_OR_ONE" "Lcarewill/validate/Cardinality;" (.ref a_ZERO_OR_ONE)) (E_ZERO_OR_ONE : Exa Z h a_ZERO_OR_ONE "carewill/validate/Cardinality") (F_ZERO_OR_ONE_min : Fld Z h a_ZERO_OR_ONE "carewill/validate/Cardinality" "min" "I" (.int (0 : Int32))) (F_ZERO_OR_ONE_max : Fld Z h a_ZERO_OR_ONE "carewill/validate/Cardinality" "max" "I" (.int (1 : Int32))) (a_AT_LEAST_ONE : Addr) (S_AT_LEAST_ONE : Sta Z h "carewill/validate/Cardinality" "AT_LEAST_ONE" "Lcarewill/validate/Cardinality;" (.ref a_AT_LEAST_ONE)) (E_AT_LEAST_ONE : Exa Z h a_AT_LEAST_ONE "carewill/validate/Cardinality") (F_AT_LEAST_ONE_min : Fld Z h a_AT_LEAST_ONE "carewill/validate/Cardinality" "min" "I" (.int (1 : Int32))) (F_AT_LEAST_ONE_max : Fld Z h a_AT_LEAST_ONE "carewill/validate/Cardinality" "max" "I" (.int (2147483647 : Int32))) (a_ZERO_OR_MORE : Addr) (S_ZERO_OR_MORE : Sta Z h "carewill/validate/Cardinality" "ZERO_OR_MORE" "Lcarewill/validate/Cardinality;" (.ref a_ZERO_OR_MORE)) (E_ZERO_OR_MORE : Exa Z h a_ZERO_OR_MORE "carewill/validate/Cardinality") (F_ZERO_OR_MORE_min : Fld Z h a_ZERO_OR_MORE "carewill/validate/Cardinality" "min" "I" (.int (0 : Int32))) (F_ZERO_OR_MORE_max : Fld Z h a_ZERO_OR_MORE "carewill/validate/Cardinality" "max" "I" (.int (2147483647 : Int32))) (a_NONE : Addr) (S_NONE : Sta Z h "carewill/validate/Cardinality" "NONE" "Lcarewill/validate/Cardinality;" (.ref a_NONE)) (E_NONE : Exa Z h a_NONE "carewill/validate/Cardinality") (F_NONE_min : Fld Z h a_NONE "carewill/validate/Cardinality" "min" "I" (.int (0 : Int32))) (F_NONE_max : Fld Z h a_NONE "carewill/validate/Cardinality" "max" "I" (.int (0 : Int32))) : Con l Z n0 x code maxLocals ret room_1 #[(.int p1)] h (fun v _ => v = some (.int 1)) := by
  refine Con.mk (Ls := #[.val (.int p1), .unset, .unset, .unset, .unset, .unset]) pn_carewill_validate_CardinalityAllowsPinLaw (ef0_i p1) ?_
  intro p e s m below meth c A hret hlk hnm
  have l_0 : (0 : Int32).toInt = 0 := by decide
  have l_1 : (1 : Int32).toInt = 1 := by decide
  have l_m : (2147483647 : Int32).toInt = 2147483647 := by decide
  have l_r := p1.toInt_lt
  refine Goes.getS A (hw _ (List.mem_of_getElem? (i := 0) rfl)) Via.refl S_EXACTLY_ONE at_0 ?_
  refine Goes.blk A _ b0_3_1 (pc' := 4) (Ls' := #[.val (.int p1), .unset, .unset, .unset, .unset, .unset]) (st' := [(.int p1), (.ref a_EXACTLY_ONE)]) rfl ?_
  refine Goes.virt A (hw _ (List.mem_of_getElem? (i := 3) rfl)) (hw _ (List.mem_of_getElem? (i := 4) rfl)) (hw _ (List.mem_of_getElem? (i := 6) rfl)) (hw _ (List.mem_of_getElem? (i := 6) rfl)) (hw _ (List.mem_of_getElem? (i := 5) rfl)) (hw _ (List.mem_of_getElem? (i := 1) rfl)) (hw _ (List.mem_of_getElem? (i := 7) rfl)) at_4 pd_727780 (by decide) E_EXACTLY_ONE (argsL := [(.int p1)]) (rest := []) rfl rfl rfl (W := 0) (Nat.le_of_ble_eq_true rfl) (by decide) (by decide) (by decide) (by decide) (k1 l Z n0 a0 hw h a_EXACTLY_ONE p1 1 1 0 (by rw [if_neg (by omega)]) F_EXACTLY_ONE_min F_EXACTLY_ONE_max) (fun v hq hh => ?_)
  obtain ⟨rfl, rfl⟩ := hh
  show Goes p l e _ s m _ below meth c n0 _ h 0 0 7 #[.val (.int p1), .unset, .unset, .unset, .unset, .unset] [(.int (0 : Int32))]
  refine Goes.blk A _ b0_7_2 (pc' := 9) (Ls' := #[.val (.int p1), .unset, .unset, .unset, .unset, .unset]) (st' := [(.int (1 : Int32)), (.int p1), (.int (0 : Int32))]) rfl ?_
  refine Goes.if2 A at_9 (by decide) (pc' := 16) (by decide) (fun hc1 => ?_) (fun hc => (by have q9 := cP_nint hc; simp only [cI] at q9; omega))
  refine Goes.blk A _ b0_16_1 (pc' := 17) (Ls' := #[.val (.int p1), .unset, .unset, .unset, .unset, .unset]) (st' := [(.int (0 : Int32)), (.int (0 : Int32))]) rfl ?_
  refine Goes.if2 A at_17 (by decide) (pc' := 24) (by decide) (fun hc => absurd hc (cP_f (by decide))) (fun hc2 => ?_)
  refine Goes.blk A _ b0_20_1 (pc' := 21) (Ls' := #[.val (.int p1), .unset, .unset, .unset, .unset, .unset]) (st' := [(.int (1 : Int32))]) rfl ?_
  refine Goes.jump A at_21 (by decide) (pc' := 25) (by decide) ?_
  refine Goes.blk A _ b0_25_1 (pc' := 26) (Ls' := #[.val (.int p1), .val (.int (1 : Int32)), .unset, .unset, .unset, .unset]) (st' := []) rfl ?_
  refine Goes.getS A (hw _ (List.mem_of_getElem? (i := 10) rfl)) Via.refl S_ZERO_OR_ONE at_26 ?_
  refine Goes.blk A _ b0_29_1 (pc' := 30) (Ls' := #[.val (.int p1), .val (.int (1 : Int32)), .unset, .unset, .unset, .unset]) (st' := [(.int p1), (.ref a_ZERO_OR_ONE)]) rfl ?_
  refine Goes.virt A (hw _ (List.mem_of_getElem? (i := 3) rfl)) (hw _ (List.mem_of_getElem? (i := 4) rfl)) (hw _ (List.mem_of_getElem? (i := 6) rfl)) (hw _ (List.mem_of_getElem? (i := 6) rfl)) (hw _ (List.mem_of_getElem? (i := 5) rfl)) (hw _ (List.mem_of_getElem? (i := 1) rfl)) (hw _ (List.mem_of_getElem? (i := 7) rfl)) at_30 pd_727780 (by decide) E_ZERO_OR_ONE (argsL := [(.int p1)]) (rest := []) rfl rfl rfl (W := 0) (Nat.le_of_ble_eq_true rfl) (by decide) (by decide) (by decide) (by decide) (k1 l Z n0 a0 hw h a_ZERO_OR_ONE p1 0 1 0 (by rw [if_neg (by omega)]) F_ZERO_OR_ONE_min F_ZERO_OR_ONE_max) (fun v hq hh => ?_)
  obtain ⟨rfl, rfl⟩ := hh
  show Goes p l e _ s m _ below meth c n0 _ h 0 0 33 #[.val (.int p1), .val (.int (1 : Int32)), .unset, .unset, .unset, .unset] [(.int (0 : Int32))]
  refine Goes.blk A _ b0_33_1 (pc' := 34) (Ls' := #[.val (.int p1), .val (.int (1 : Int32)), .unset, .unset, .unset, .unset]) (st' := [(.int p1), (.int (0 : Int32))]) rfl ?_
  refine Goes.if1 A at_34 (by decide) (pc' := 42) (by decide) (fun hc => (by have q9 := cP_int hc; simp only [cI] at q9; omega)) (fun hc3 => ?_)
  refine Goes.blk A _ b0_37_2 (pc' := 39) (Ls' := #[.val (.int p1), .val (.int (1 : Int32)), .unset, .unset, .unset, .unset]) (st' := [(.int (1 : Int32)), (.int p1), (.int (0 : Int32))]) rfl ?_
  refine Goes.if2 A at_39 (by decide) (pc' := 46) (by decide) (fun hc4 => ?_) (fun hc => (by have q9 := cP_nint hc; simp only [cI] at q9; omega))
  refine Goes.blk A _ b0_46_1 (pc' := 47) (Ls' := #[.val (.int p1), .val (.int (1 : Int32)), .unset, .unset, .unset, .unset]) (st' := [(.int (0 : Int32)), (.int (0 : Int32))]) rfl ?_
  refine Goes.if2 A at_47 (by decide) (pc' := 54) (by decide) (fun hc => absurd hc (cP_f (by decide))) (fun hc5 => ?_)
  refine Goes.blk A _ b0_50_1 (pc' := 51) (Ls' := #[.val (.int p1), .val (.int (1 : Int32)), .unset, .unset, .unset, .unset]) (st' := [(.int (1 : Int32))]) rfl ?_
  refine Goes.jump A at_51 (by decide) (pc' := 55) (by decide) ?_
  refine Goes.blk A _ b0_55_1 (pc' := 56) (Ls' := #[.val (.int p1), .val (.int (1 : Int32)), .val (.int (1 : Int32)), .unset, .unset, .unset]) (st' := []) rfl ?_
  refine Goes.getS A (hw _ (List.mem_of_getElem? (i := 14) rfl)) Via.refl S_AT_LEAST_ONE at_56 ?_
  refine Goes.blk A _ b0_59_1 (pc' := 60) (Ls' := #[.val (.int p1), .val (.int (1 : Int32)), .val (.int (1 : Int32)), .unset, .unset, .unset]) (st' := [(.int p1), (.ref a_AT_LEAST_ONE)]) rfl ?_
  refine Goes.virt A (hw _ (List.mem_of_getElem? (i := 3) rfl)) (hw _ (List.mem_of_getElem? (i := 4) rfl)) (hw _ (List.mem_of_getElem? (i := 6) rfl)) (hw _ (List.mem_of_getElem? (i := 6) rfl)) (hw _ (List.mem_of_getElem? (i := 5) rfl)) (hw _ (List.mem_of_getElem? (i := 1) rfl)) (hw _ (List.mem_of_getElem? (i := 7) rfl)) at_60 pd_727780 (by decide) E_AT_LEAST_ONE (argsL := [(.int p1)]) (rest := []) rfl rfl rfl (W := 0) (Nat.le_of_ble_eq_true rfl) (by decide) (by decide) (by decide) (by decide) (k1 l Z n0 a0 hw h a_AT_LEAST_ONE p1 1 2147483647 0 (by rw [if_neg (by omega)]) F_AT_LEAST_ONE_min F_AT_LEAST_ONE_max) (fun v hq hh => ?_)
  obtain ⟨rfl, rfl⟩ := hh
  show Goes p l e _ s m _ below meth c n0 _ h 0 0 63 #[.val (.int p1), .val (.int (1 : Int32)), .val (.int (1 : Int32)), .unset, .unset, .unset] [(.int (0 : Int32))]
  refine Goes.blk A _ b0_63_2 (pc' := 65) (Ls' := #[.val (.int p1), .val (.int (1 : Int32)), .val (.int (1 : Int32)), .unset, .unset, .unset]) (st' := [(.int (1 : Int32)), (.int p1), (.int (0 : Int32))]) rfl ?_
  refine Goes.if2 A at_65 (by decide) (pc' := 72) (by decide) (fun hc6 => ?_) (fun hc => (by have q9 := cP_nint hc; simp only [cI] at q9; omega))
  refine Goes.blk A _ b0_72_1 (pc' := 73) (Ls' := #[.val (.int p1), .val (.int (1 : Int32)), .val (.int (1 : Int32)), .unset, .unset, .unset]) (st' := [(.int (0 : Int32)), (.int (0 : Int32))]) rfl ?_
  refine Goes.if2 A at_73 (by decide) (pc' := 80) (by decide) (fun hc => absurd hc (cP_f (by decide))) (fun hc7 => ?_)
  refine Goes.blk A _ b0_76_1 (pc' := 77) (Ls' := #[.val (.int p1), .val (.int (1 : Int32)), .val (.int (1 : Int32)), .unset, .unset, .unset]) (st' := [(.int (1 : Int32))]) rfl ?_
  refine Goes.jump A at_77 (by decide) (pc' := 81) (by decide) ?_
  refine Goes.blk A _ b0_81_1 (pc' := 82) (Ls' := #[.val (.int p1), .val (.int (1 : Int32)), .val (.int (1 : Int32)), .val (.int (1 : Int32)), .unset, .unset]) (st' := []) rfl ?_
  refine Goes.getS A (hw _ (List.mem_of_getElem? (i := 16) rfl)) Via.refl S_ZERO_OR_MORE at_82 ?_
  refine Goes.blk A _ b0_85_1 (pc' := 86) (Ls' := #[.val (.int p1), .val (.int (1 : Int32)), .val (.int (1 : Int32)), .val (.int (1 : Int32)), .unset, .unset]) (st' := [(.int p1), (.ref a_ZERO_OR_MORE)]) rfl ?_
  refine Goes.virt A (hw _ (List.mem_of_getElem? (i := 3) rfl)) (hw _ (List.mem_of_getElem? (i := 4) rfl)) (hw _ (List.mem_of_getElem? (i := 6) rfl)) (hw _ (List.mem_of_getElem? (i := 6) rfl)) (hw _ (List.mem_of_getElem? (i := 5) rfl)) (hw _ (List.mem_of_getElem? (i := 1) rfl)) (hw _ (List.mem_of_getElem? (i := 7) rfl)) at_86 pd_727780 (by decide) E_ZERO_OR_MORE (argsL := [(.int p1)]) (rest := []) rfl rfl rfl (W := 0) (Nat.le_of_ble_eq_true rfl) (by decide) (by decide) (by decide) (by decide) (k1 l Z n0 a0 hw h a_ZERO_OR_MORE p1 0 2147483647 0 (by rw [if_neg (by omega)]) F_ZERO_OR_MORE_min F_ZERO_OR_MORE_max) (fun v hq hh => ?_)
  obtain ⟨rfl, rfl⟩ := hh
  show Goes p l e _ s m _ below meth c n0 _ h 0 0 89 #[.val (.int p1), .val (.int (1 : Int32)), .val (.int (1 : Int32)), .val (.int (1 : Int32)), .unset, .unset] [(.int (0 : Int32))]
  refine Goes.blk A _ b0_89_1 (pc' := 90) (Ls' := #[.val (.int p1), .val (.int (1 : Int32)), .val (.int (1 : Int32)), .val (.int (1 : Int32)), .unset, .unset]) (st' := [(.int p1), (.int (0 : Int32))]) rfl ?_
  refine Goes.if1 A at_90 (by decide) (pc' := 97) (by decide) (fun hc8 => ?_) (fun hc => (by have q9 := cP_nint hc; simp only [cI] at q9; omega))
  refine Goes.blk A _ b0_97_1 (pc' := 98) (Ls' := #[.val (.int p1), .val (.int (1 : Int32)), .val (.int (1 : Int32)), .val (.int (1 : Int32)), .unset, .unset]) (st' := [(.int (0 : Int32)), (.int (0 : Int32))]) rfl ?_
  refine Goes.if2 A at_98 (by decide) (pc' := 105) (by decide) (fun hc => absurd hc (cP_f (by decide))) (fun hc9 => ?_)
  refine Goes.blk A _ b0_101_1 (pc' := 102) (Ls' := #[.val (.int p1), .val (.int (1 : Int32)), .val (.int (1 : Int32)), .val (.int (1 : Int32)), .unset, .unset]) (st' := [(.int (1 : Int32))]) rfl ?_
  refine Goes.jump A at_102 (by decide) (pc' := 106) (by decide) ?_
  refine Goes.blk A _ b0_106_1 (pc' := 108) (Ls' := #[.val (.int p1), .val (.int (1 : Int32)), .val (.int (1 : Int32)), .val (.int (1 : Int32)), .val (.int (1 : Int32)), .unset]) (st' := []) rfl ?_
  refine Goes.getS A (hw _ (List.mem_of_getElem? (i := 18) rfl)) Via.refl S_NONE at_108 ?_
  refine Goes.blk A _ b0_111_1 (pc' := 112) (Ls' := #[.val (.int p1), .val (.int (1 : Int32)), .val (.int (1 : Int32)), .val (.int (1 : Int32)), .val (.int (1 : Int32)), .unset]) (st' := [(.int p1), (.ref a_NONE)]) rfl ?_
  refine Goes.virt A (hw _ (List.mem_of_getElem? (i := 3) rfl)) (hw _ (List.mem_of_getElem? (i := 4) rfl)) (hw _ (List.mem_of_getElem? (i := 6) rfl)) (hw _ (List.mem_of_getElem? (i := 6) rfl)) (hw _ (List.mem_of_getElem? (i := 5) rfl)) (hw _ (List.mem_of_getElem? (i := 1) rfl)) (hw _ (List.mem_of_getElem? (i := 7) rfl)) at_112 pd_727780 (by decide) E_NONE (argsL := [(.int p1)]) (rest := []) rfl rfl rfl (W := 0) (Nat.le_of_ble_eq_true rfl) (by decide) (by decide) (by decide) (by decide) (k1 l Z n0 a0 hw h a_NONE p1 0 0 0 (by rw [if_neg (by omega)]) F_NONE_min F_NONE_max) (fun v hq hh => ?_)
  obtain ⟨rfl, rfl⟩ := hh
  show Goes p l e _ s m _ below meth c n0 _ h 0 0 115 #[.val (.int p1), .val (.int (1 : Int32)), .val (.int (1 : Int32)), .val (.int (1 : Int32)), .val (.int (1 : Int32)), .unset] [(.int (0 : Int32))]
  refine Goes.blk A _ b0_115_1 (pc' := 116) (Ls' := #[.val (.int p1), .val (.int (1 : Int32)), .val (.int (1 : Int32)), .val (.int (1 : Int32)), .val (.int (1 : Int32)), .unset]) (st' := [(.int p1), (.int (0 : Int32))]) rfl ?_
  refine Goes.if1 A at_116 (by decide) (pc' := 123) (by decide) (fun hc10 => ?_) (fun hc => (by have q9 := cP_nint hc; simp only [cI] at q9; omega))
  refine Goes.blk A _ b0_123_1 (pc' := 124) (Ls' := #[.val (.int p1), .val (.int (1 : Int32)), .val (.int (1 : Int32)), .val (.int (1 : Int32)), .val (.int (1 : Int32)), .unset]) (st' := [(.int (0 : Int32)), (.int (0 : Int32))]) rfl ?_
  refine Goes.if2 A at_124 (by decide) (pc' := 131) (by decide) (fun hc => absurd hc (cP_f (by decide))) (fun hc11 => ?_)
  refine Goes.blk A _ b0_127_1 (pc' := 128) (Ls' := #[.val (.int p1), .val (.int (1 : Int32)), .val (.int (1 : Int32)), .val (.int (1 : Int32)), .val (.int (1 : Int32)), .unset]) (st' := [(.int (1 : Int32))]) rfl ?_
  refine Goes.jump A at_128 (by decide) (pc' := 132) (by decide) ?_
  refine Goes.blk A _ b0_132_2 (pc' := 135) (Ls' := #[.val (.int p1), .val (.int (1 : Int32)), .val (.int (1 : Int32)), .val (.int (1 : Int32)), .val (.int (1 : Int32)), .val (.int (1 : Int32))]) (st' := [(.int (1 : Int32))]) rfl ?_
  refine Goes.if1 A at_135 (by decide) (pc' := 160) (by decide) (fun hc => absurd hc (cP_f (by decide))) (fun hc12 => ?_)
  refine Goes.blk A _ b0_138_1 (pc' := 139) (Ls' := #[.val (.int p1), .val (.int (1 : Int32)), .val (.int (1 : Int32)), .val (.int (1 : Int32)), .val (.int (1 : Int32)), .val (.int (1 : Int32))]) (st' := [(.int (1 : Int32))]) rfl ?_
  refine Goes.if1 A at_139 (by decide) (pc' := 160) (by decide) (fun hc => absurd hc (cP_f (by decide))) (fun hc13 => ?_)
  refine Goes.blk A _ b0_142_1 (pc' := 143) (Ls' := #[.val (.int p1), .val (.int (1 : Int32)), .val (.int (1 : Int32)), .val (.int (1 : Int32)), .val (.int (1 : Int32)), .val (.int (1 : Int32))]) (st' := [(.int (1 : Int32))]) rfl ?_
  refine Goes.if1 A at_143 (by decide) (pc' := 160) (by decide) (fun hc => absurd hc (cP_f (by decide))) (fun hc14 => ?_)
  refine Goes.blk A _ b0_146_1 (pc' := 148) (Ls' := #[.val (.int p1), .val (.int (1 : Int32)), .val (.int (1 : Int32)), .val (.int (1 : Int32)), .val (.int (1 : Int32)), .val (.int (1 : Int32))]) (st' := [(.int (1 : Int32))]) rfl ?_
  refine Goes.if1 A at_148 (by decide) (pc' := 160) (by decide) (fun hc => absurd hc (cP_f (by decide))) (fun hc15 => ?_)
  refine Goes.blk A _ b0_151_1 (pc' := 153) (Ls' := #[.val (.int p1), .val (.int (1 : Int32)), .val (.int (1 : Int32)), .val (.int (1 : Int32)), .val (.int (1 : Int32)), .val (.int (1 : Int32))]) (st' := [(.int (1 : Int32))]) rfl ?_
  refine Goes.if1 A at_153 (by decide) (pc' := 160) (by decide) (fun hc => absurd hc (cP_f (by decide))) (fun hc16 => ?_)
  refine Goes.blk A _ b0_156_1 (pc' := 157) (Ls' := #[.val (.int p1), .val (.int (1 : Int32)), .val (.int (1 : Int32)), .val (.int (1 : Int32)), .val (.int (1 : Int32)), .val (.int (1 : Int32))]) (st' := [(.int (1 : Int32))]) rfl ?_
  refine Goes.jump A at_157 (by decide) (pc' := 161) (by decide) ?_
  exact Goes.retB A hret (by simp) hlk at_161 (z' := 1) (by decide) (by decide) (by decide) rfl
set_option maxRecDepth 65536 in
set_option maxHeartbeats 40000000 in
theorem k0_0 (l : Launch) (Z : State) (n0 : Nat) (a0 : Array Value) (hw : ∀ d ∈ tables_1, d.before a0 Z = true) (h : Heap) (a_EXACTLY_ONE : Addr) (S_EXACTLY_ONE : Sta Z h "carewill/validate/Cardinality" "EXACTLY_ONE" "Lcarewill/validate/Cardinality;" (.ref a_EXACTLY_ONE)) (E_EXACTLY_ONE : Exa Z h a_EXACTLY_ONE "carewill/validate/Cardinality") (F_EXACTLY_ONE_min : Fld Z h a_EXACTLY_ONE "carewill/validate/Cardinality" "min" "I" (.int (1 : Int32))) (F_EXACTLY_ONE_max : Fld Z h a_EXACTLY_ONE "carewill/validate/Cardinality" "max" "I" (.int (1 : Int32))) (a_ZERO_OR_ONE : Addr) (S_ZERO_OR_ONE : Sta Z h "carewill/validate/Cardinality" "ZERO_OR_ONE" "Lcarewill/validate/Cardinality;" (.ref a_ZERO_OR_ONE)) (E_ZERO_OR_ONE : Exa Z h a_ZERO_OR_ONE "carewill/validate/Cardinality") (F_ZERO_OR_ONE_min : Fld Z h a_ZERO_OR_ONE "carewill/validate/Cardinality" "min" "I" (.int (0 : Int32))) (F_ZERO_OR_ONE_max : Fld Z h a_ZERO_OR_ONE "carewill/validate/Cardinality" "max" "I" (.int (1 : Int32))) (a_AT_LEAST_ONE : Addr) (S_AT_LEAST_ONE : Sta Z h "carewill/validate/Cardinality" "AT_LEAST_ONE" "Lcarewill/validate/Cardinality;" (.ref a_AT_LEAST_ONE)) (E_AT_LEAST_ONE : Exa Z h a_AT_LEAST_ONE "carewill/validate/Cardinality") (F_AT_LEAST_ONE_min : Fld Z h a_AT_LEAST_ONE "carewill/validate/Cardinality" "min" "I" (.int (1 : Int32))) (F_AT_LEAST_ONE_max : Fld Z h a_AT_LEAST_ONE "carewill/validate/Cardinality" "max" "I" (.int (2147483647 : Int32))) (a_ZERO_OR_MORE : Addr) (S_ZERO_OR_MORE : Sta Z h "carewill/validate/Cardinality" "ZERO_OR_MORE" "Lcarewill/validate/Cardinality;" (.ref a_ZERO_OR_MORE)) (E_ZERO_OR_MORE : Exa Z h a_ZERO_OR_MORE "carewill/validate/Cardinality") (F_ZERO_OR_MORE_min : Fld Z h a_ZERO_OR_MORE "carewill/validate/Cardinality" "min" "I" (.int (0 : Int32))) (F_ZERO_OR_MORE_max : Fld Z h a_ZERO_OR_MORE "carewill/validate/Cardinality" "max" "I" (.int (2147483647 : Int32))) (a_NONE : Addr) (S_NONE : Sta Z h "carewill/validate/Cardinality" "NONE" "Lcarewill/validate/Cardinality;" (.ref a_NONE)) (E_NONE : Exa Z h a_NONE "carewill/validate/Cardinality") (F_NONE_min : Fld Z h a_NONE "carewill/validate/Cardinality" "min" "I" (.int (0 : Int32))) (F_NONE_max : Fld Z h a_NONE "carewill/validate/Cardinality" "max" "I" (.int (0 : Int32))) : Con l Z n0 x code maxLocals ret room_1 #[(.int (0 : Int32))] h (fun v _ => v = some (.int 1)) := by
  refine Con.mk (Ls := #[.val (.int (0 : Int32)), .unset, .unset, .unset, .unset, .unset]) pn_carewill_validate_CardinalityAllowsPinLaw (ef0_i (0 : Int32)) ?_
  intro p e s m below meth c A hret hlk hnm
  have l_0 : (0 : Int32).toInt = 0 := by decide
  have l_1 : (1 : Int32).toInt = 1 := by decide
  have l_m : (2147483647 : Int32).toInt = 2147483647 := by decide
  refine Goes.getS A (hw _ (List.mem_of_getElem? (i := 0) rfl)) Via.refl S_EXACTLY_ONE at_0 ?_
  refine Goes.blk A _ b0_3_1 (pc' := 4) (Ls' := #[.val (.int (0 : Int32)), .unset, .unset, .unset, .unset, .unset]) (st' := [(.int (0 : Int32)), (.ref a_EXACTLY_ONE)]) rfl ?_
  refine Goes.virt A (hw _ (List.mem_of_getElem? (i := 3) rfl)) (hw _ (List.mem_of_getElem? (i := 4) rfl)) (hw _ (List.mem_of_getElem? (i := 6) rfl)) (hw _ (List.mem_of_getElem? (i := 6) rfl)) (hw _ (List.mem_of_getElem? (i := 5) rfl)) (hw _ (List.mem_of_getElem? (i := 1) rfl)) (hw _ (List.mem_of_getElem? (i := 7) rfl)) at_4 pd_727780 (by decide) E_EXACTLY_ONE (argsL := [(.int (0 : Int32))]) (rest := []) rfl rfl rfl (W := 0) (Nat.le_of_ble_eq_true rfl) (by decide) (by decide) (by decide) (by decide) (k1 l Z n0 a0 hw h a_EXACTLY_ONE (0 : Int32) 1 1 0 (by rw [if_neg (by omega)]) F_EXACTLY_ONE_min F_EXACTLY_ONE_max) (fun v hq hh => ?_)
  obtain ⟨rfl, rfl⟩ := hh
  show Goes p l e _ s m _ below meth c n0 _ h 0 0 7 #[.val (.int (0 : Int32)), .unset, .unset, .unset, .unset, .unset] [(.int (0 : Int32))]
  refine Goes.blk A _ b0_7_2 (pc' := 9) (Ls' := #[.val (.int (0 : Int32)), .unset, .unset, .unset, .unset, .unset]) (st' := [(.int (1 : Int32)), (.int (0 : Int32)), (.int (0 : Int32))]) rfl ?_
  refine Goes.if2 A at_9 (by decide) (pc' := 16) (by decide) (fun hc1 => ?_) (fun hc => absurd (cP_t (by decide)) hc)
  refine Goes.blk A _ b0_16_1 (pc' := 17) (Ls' := #[.val (.int (0 : Int32)), .unset, .unset, .unset, .unset, .unset]) (st' := [(.int (0 : Int32)), (.int (0 : Int32))]) rfl ?_
  refine Goes.if2 A at_17 (by decide) (pc' := 24) (by decide) (fun hc => absurd hc (cP_f (by decide))) (fun hc2 => ?_)
  refine Goes.blk A _ b0_20_1 (pc' := 21) (Ls' := #[.val (.int (0 : Int32)), .unset, .unset, .unset, .unset, .unset]) (st' := [(.int (1 : Int32))]) rfl ?_
  refine Goes.jump A at_21 (by decide) (pc' := 25) (by decide) ?_
  refine Goes.blk A _ b0_25_1 (pc' := 26) (Ls' := #[.val (.int (0 : Int32)), .val (.int (1 : Int32)), .unset, .unset, .unset, .unset]) (st' := []) rfl ?_
  refine Goes.getS A (hw _ (List.mem_of_getElem? (i := 10) rfl)) Via.refl S_ZERO_OR_ONE at_26 ?_
  refine Goes.blk A _ b0_29_1 (pc' := 30) (Ls' := #[.val (.int (0 : Int32)), .val (.int (1 : Int32)), .unset, .unset, .unset, .unset]) (st' := [(.int (0 : Int32)), (.ref a_ZERO_OR_ONE)]) rfl ?_
  refine Goes.virt A (hw _ (List.mem_of_getElem? (i := 3) rfl)) (hw _ (List.mem_of_getElem? (i := 4) rfl)) (hw _ (List.mem_of_getElem? (i := 6) rfl)) (hw _ (List.mem_of_getElem? (i := 6) rfl)) (hw _ (List.mem_of_getElem? (i := 5) rfl)) (hw _ (List.mem_of_getElem? (i := 1) rfl)) (hw _ (List.mem_of_getElem? (i := 7) rfl)) at_30 pd_727780 (by decide) E_ZERO_OR_ONE (argsL := [(.int (0 : Int32))]) (rest := []) rfl rfl rfl (W := 0) (Nat.le_of_ble_eq_true rfl) (by decide) (by decide) (by decide) (by decide) (k1 l Z n0 a0 hw h a_ZERO_OR_ONE (0 : Int32) 0 1 1 (by rw [if_pos (by omega)]) F_ZERO_OR_ONE_min F_ZERO_OR_ONE_max) (fun v hq hh => ?_)
  obtain ⟨rfl, rfl⟩ := hh
  show Goes p l e _ s m _ below meth c n0 _ h 0 0 33 #[.val (.int (0 : Int32)), .val (.int (1 : Int32)), .unset, .unset, .unset, .unset] [(.int (1 : Int32))]
  refine Goes.blk A _ b0_33_1 (pc' := 34) (Ls' := #[.val (.int (0 : Int32)), .val (.int (1 : Int32)), .unset, .unset, .unset, .unset]) (st' := [(.int (0 : Int32)), (.int (1 : Int32))]) rfl ?_
  refine Goes.if1 A at_34 (by decide) (pc' := 42) (by decide) (fun hc3 => ?_) (fun hc => absurd (cP_t (by decide)) hc)
  refine Goes.blk A _ b0_42_1 (pc' := 43) (Ls' := #[.val (.int (0 : Int32)), .val (.int (1 : Int32)), .unset, .unset, .unset, .unset]) (st' := [(.int (1 : Int32)), (.int (1 : Int32))]) rfl ?_
  refine Goes.jump A at_43 (by decide) (pc' := 47) (by decide) ?_
  refine Goes.if2 A at_47 (by decide) (pc' := 54) (by decide) (fun hc => absurd hc (cP_f (by decide))) (fun hc4 => ?_)
  refine Goes.blk A _ b0_50_1 (pc' := 51) (Ls' := #[.val (.int (0 : Int32)), .val (.int (1 : Int32)), .unset, .unset, .unset, .unset]) (st' := [(.int (1 : Int32))]) rfl ?_
  refine Goes.jump A at_51 (by decide) (pc' := 55) (by decide) ?_
  refine Goes.blk A _ b0_55_1 (pc' := 56) (Ls' := #[.val (.int (0 : Int32)), .val (.int (1 : Int32)), .val (.int (1 : Int32)), .unset, .unset, .unset]) (st' := []) rfl ?_
  refine Goes.getS A (hw _ (List.mem_of_getElem? (i := 14) rfl)) Via.refl S_AT_LEAST_ONE at_56 ?_
  refine Goes.blk A _ b0_59_1 (pc' := 60) (Ls' := #[.val (.int (0 : Int32)), .val (.int (1 : Int32)), .val (.int (1 : Int32)), .unset, .unset, .unset]) (st' := [(.int (0 : Int32)), (.ref a_AT_LEAST_ONE)]) rfl ?_
  refine Goes.virt A (hw _ (List.mem_of_getElem? (i := 3) rfl)) (hw _ (List.mem_of_getElem? (i := 4) rfl)) (hw _ (List.mem_of_getElem? (i := 6) rfl)) (hw _ (List.mem_of_getElem? (i := 6) rfl)) (hw _ (List.mem_of_getElem? (i := 5) rfl)) (hw _ (List.mem_of_getElem? (i := 1) rfl)) (hw _ (List.mem_of_getElem? (i := 7) rfl)) at_60 pd_727780 (by decide) E_AT_LEAST_ONE (argsL := [(.int (0 : Int32))]) (rest := []) rfl rfl rfl (W := 0) (Nat.le_of_ble_eq_true rfl) (by decide) (by decide) (by decide) (by decide) (k1 l Z n0 a0 hw h a_AT_LEAST_ONE (0 : Int32) 1 2147483647 0 (by rw [if_neg (by omega)]) F_AT_LEAST_ONE_min F_AT_LEAST_ONE_max) (fun v hq hh => ?_)
  obtain ⟨rfl, rfl⟩ := hh
  show Goes p l e _ s m _ below meth c n0 _ h 0 0 63 #[.val (.int (0 : Int32)), .val (.int (1 : Int32)), .val (.int (1 : Int32)), .unset, .unset, .unset] [(.int (0 : Int32))]
  refine Goes.blk A _ b0_63_2 (pc' := 65) (Ls' := #[.val (.int (0 : Int32)), .val (.int (1 : Int32)), .val (.int (1 : Int32)), .unset, .unset, .unset]) (st' := [(.int (1 : Int32)), (.int (0 : Int32)), (.int (0 : Int32))]) rfl ?_
  refine Goes.if2 A at_65 (by decide) (pc' := 72) (by decide) (fun hc5 => ?_) (fun hc => absurd (cP_t (by decide)) hc)
  refine Goes.blk A _ b0_72_1 (pc' := 73) (Ls' := #[.val (.int (0 : Int32)), .val (.int (1 : Int32)), .val (.int (1 : Int32)), .unset, .unset, .unset]) (st' := [(.int (0 : Int32)), (.int (0 : Int32))]) rfl ?_
  refine Goes.if2 A at_73 (by decide) (pc' := 80) (by decide) (fun hc => absurd hc (cP_f (by decide))) (fun hc6 => ?_)
  refine Goes.blk A _ b0_76_1 (pc' := 77) (Ls' := #[.val (.int (0 : Int32)), .val (.int (1 : Int32)), .val (.int (1 : Int32)), .unset, .unset, .unset]) (st' := [(.int (1 : Int32))]) rfl ?_
  refine Goes.jump A at_77 (by decide) (pc' := 81) (by decide) ?_
  refine Goes.blk A _ b0_81_1 (pc' := 82) (Ls' := #[.val (.int (0 : Int32)), .val (.int (1 : Int32)), .val (.int (1 : Int32)), .val (.int (1 : Int32)), .unset, .unset]) (st' := []) rfl ?_
  refine Goes.getS A (hw _ (List.mem_of_getElem? (i := 16) rfl)) Via.refl S_ZERO_OR_MORE at_82 ?_
  refine Goes.blk A _ b0_85_1 (pc' := 86) (Ls' := #[.val (.int (0 : Int32)), .val (.int (1 : Int32)), .val (.int (1 : Int32)), .val (.int (1 : Int32)), .unset, .unset]) (st' := [(.int (0 : Int32)), (.ref a_ZERO_OR_MORE)]) rfl ?_
  refine Goes.virt A (hw _ (List.mem_of_getElem? (i := 3) rfl)) (hw _ (List.mem_of_getElem? (i := 4) rfl)) (hw _ (List.mem_of_getElem? (i := 6) rfl)) (hw _ (List.mem_of_getElem? (i := 6) rfl)) (hw _ (List.mem_of_getElem? (i := 5) rfl)) (hw _ (List.mem_of_getElem? (i := 1) rfl)) (hw _ (List.mem_of_getElem? (i := 7) rfl)) at_86 pd_727780 (by decide) E_ZERO_OR_MORE (argsL := [(.int (0 : Int32))]) (rest := []) rfl rfl rfl (W := 0) (Nat.le_of_ble_eq_true rfl) (by decide) (by decide) (by decide) (by decide) (k1 l Z n0 a0 hw h a_ZERO_OR_MORE (0 : Int32) 0 2147483647 1 (by rw [if_pos (by omega)]) F_ZERO_OR_MORE_min F_ZERO_OR_MORE_max) (fun v hq hh => ?_)
  obtain ⟨rfl, rfl⟩ := hh
  show Goes p l e _ s m _ below meth c n0 _ h 0 0 89 #[.val (.int (0 : Int32)), .val (.int (1 : Int32)), .val (.int (1 : Int32)), .val (.int (1 : Int32)), .unset, .unset] [(.int (1 : Int32))]
  refine Goes.blk A _ b0_89_1 (pc' := 90) (Ls' := #[.val (.int (0 : Int32)), .val (.int (1 : Int32)), .val (.int (1 : Int32)), .val (.int (1 : Int32)), .unset, .unset]) (st' := [(.int (0 : Int32)), (.int (1 : Int32))]) rfl ?_
  refine Goes.if1 A at_90 (by decide) (pc' := 97) (by decide) (fun hc => absurd hc (cP_f (by decide))) (fun hc7 => ?_)
  refine Goes.blk A _ b0_93_1 (pc' := 94) (Ls' := #[.val (.int (0 : Int32)), .val (.int (1 : Int32)), .val (.int (1 : Int32)), .val (.int (1 : Int32)), .unset, .unset]) (st' := [(.int (1 : Int32)), (.int (1 : Int32))]) rfl ?_
  refine Goes.jump A at_94 (by decide) (pc' := 98) (by decide) ?_
  refine Goes.if2 A at_98 (by decide) (pc' := 105) (by decide) (fun hc => absurd hc (cP_f (by decide))) (fun hc8 => ?_)
  refine Goes.blk A _ b0_101_1 (pc' := 102) (Ls' := #[.val (.int (0 : Int32)), .val (.int (1 : Int32)), .val (.int (1 : Int32)), .val (.int (1 : Int32)), .unset, .unset]) (st' := [(.int (1 : Int32))]) rfl ?_
  refine Goes.jump A at_102 (by decide) (pc' := 106) (by decide) ?_
  refine Goes.blk A _ b0_106_1 (pc' := 108) (Ls' := #[.val (.int (0 : Int32)), .val (.int (1 : Int32)), .val (.int (1 : Int32)), .val (.int (1 : Int32)), .val (.int (1 : Int32)), .unset]) (st' := []) rfl ?_
  refine Goes.getS A (hw _ (List.mem_of_getElem? (i := 18) rfl)) Via.refl S_NONE at_108 ?_
  refine Goes.blk A _ b0_111_1 (pc' := 112) (Ls' := #[.val (.int (0 : Int32)), .val (.int (1 : Int32)), .val (.int (1 : Int32)), .val (.int (1 : Int32)), .val (.int (1 : Int32)), .unset]) (st' := [(.int (0 : Int32)), (.ref a_NONE)]) rfl ?_
  refine Goes.virt A (hw _ (List.mem_of_getElem? (i := 3) rfl)) (hw _ (List.mem_of_getElem? (i := 4) rfl)) (hw _ (List.mem_of_getElem? (i := 6) rfl)) (hw _ (List.mem_of_getElem? (i := 6) rfl)) (hw _ (List.mem_of_getElem? (i := 5) rfl)) (hw _ (List.mem_of_getElem? (i := 1) rfl)) (hw _ (List.mem_of_getElem? (i := 7) rfl)) at_112 pd_727780 (by decide) E_NONE (argsL := [(.int (0 : Int32))]) (rest := []) rfl rfl rfl (W := 0) (Nat.le_of_ble_eq_true rfl) (by decide) (by decide) (by decide) (by decide) (k1 l Z n0 a0 hw h a_NONE (0 : Int32) 0 0 1 (by rw [if_pos (by omega)]) F_NONE_min F_NONE_max) (fun v hq hh => ?_)
  obtain ⟨rfl, rfl⟩ := hh
  show Goes p l e _ s m _ below meth c n0 _ h 0 0 115 #[.val (.int (0 : Int32)), .val (.int (1 : Int32)), .val (.int (1 : Int32)), .val (.int (1 : Int32)), .val (.int (1 : Int32)), .unset] [(.int (1 : Int32))]
  refine Goes.blk A _ b0_115_1 (pc' := 116) (Ls' := #[.val (.int (0 : Int32)), .val (.int (1 : Int32)), .val (.int (1 : Int32)), .val (.int (1 : Int32)), .val (.int (1 : Int32)), .unset]) (st' := [(.int (0 : Int32)), (.int (1 : Int32))]) rfl ?_
  refine Goes.if1 A at_116 (by decide) (pc' := 123) (by decide) (fun hc => absurd hc (cP_f (by decide))) (fun hc9 => ?_)
  refine Goes.blk A _ b0_119_1 (pc' := 120) (Ls' := #[.val (.int (0 : Int32)), .val (.int (1 : Int32)), .val (.int (1 : Int32)), .val (.int (1 : Int32)), .val (.int (1 : Int32)), .unset]) (st' := [(.int (1 : Int32)), (.int (1 : Int32))]) rfl ?_
  refine Goes.jump A at_120 (by decide) (pc' := 124) (by decide) ?_
  refine Goes.if2 A at_124 (by decide) (pc' := 131) (by decide) (fun hc => absurd hc (cP_f (by decide))) (fun hc10 => ?_)
  refine Goes.blk A _ b0_127_1 (pc' := 128) (Ls' := #[.val (.int (0 : Int32)), .val (.int (1 : Int32)), .val (.int (1 : Int32)), .val (.int (1 : Int32)), .val (.int (1 : Int32)), .unset]) (st' := [(.int (1 : Int32))]) rfl ?_
  refine Goes.jump A at_128 (by decide) (pc' := 132) (by decide) ?_
  refine Goes.blk A _ b0_132_2 (pc' := 135) (Ls' := #[.val (.int (0 : Int32)), .val (.int (1 : Int32)), .val (.int (1 : Int32)), .val (.int (1 : Int32)), .val (.int (1 : Int32)), .val (.int (1 : Int32))]) (st' := [(.int (1 : Int32))]) rfl ?_
  refine Goes.if1 A at_135 (by decide) (pc' := 160) (by decide) (fun hc => absurd hc (cP_f (by decide))) (fun hc11 => ?_)
  refine Goes.blk A _ b0_138_1 (pc' := 139) (Ls' := #[.val (.int (0 : Int32)), .val (.int (1 : Int32)), .val (.int (1 : Int32)), .val (.int (1 : Int32)), .val (.int (1 : Int32)), .val (.int (1 : Int32))]) (st' := [(.int (1 : Int32))]) rfl ?_
  refine Goes.if1 A at_139 (by decide) (pc' := 160) (by decide) (fun hc => absurd hc (cP_f (by decide))) (fun hc12 => ?_)
  refine Goes.blk A _ b0_142_1 (pc' := 143) (Ls' := #[.val (.int (0 : Int32)), .val (.int (1 : Int32)), .val (.int (1 : Int32)), .val (.int (1 : Int32)), .val (.int (1 : Int32)), .val (.int (1 : Int32))]) (st' := [(.int (1 : Int32))]) rfl ?_
  refine Goes.if1 A at_143 (by decide) (pc' := 160) (by decide) (fun hc => absurd hc (cP_f (by decide))) (fun hc13 => ?_)
  refine Goes.blk A _ b0_146_1 (pc' := 148) (Ls' := #[.val (.int (0 : Int32)), .val (.int (1 : Int32)), .val (.int (1 : Int32)), .val (.int (1 : Int32)), .val (.int (1 : Int32)), .val (.int (1 : Int32))]) (st' := [(.int (1 : Int32))]) rfl ?_
  refine Goes.if1 A at_148 (by decide) (pc' := 160) (by decide) (fun hc => absurd hc (cP_f (by decide))) (fun hc14 => ?_)
  refine Goes.blk A _ b0_151_1 (pc' := 153) (Ls' := #[.val (.int (0 : Int32)), .val (.int (1 : Int32)), .val (.int (1 : Int32)), .val (.int (1 : Int32)), .val (.int (1 : Int32)), .val (.int (1 : Int32))]) (st' := [(.int (1 : Int32))]) rfl ?_
  refine Goes.if1 A at_153 (by decide) (pc' := 160) (by decide) (fun hc => absurd hc (cP_f (by decide))) (fun hc15 => ?_)
  refine Goes.blk A _ b0_156_1 (pc' := 157) (Ls' := #[.val (.int (0 : Int32)), .val (.int (1 : Int32)), .val (.int (1 : Int32)), .val (.int (1 : Int32)), .val (.int (1 : Int32)), .val (.int (1 : Int32))]) (st' := [(.int (1 : Int32))]) rfl ?_
  refine Goes.jump A at_157 (by decide) (pc' := 161) (by decide) ?_
  exact Goes.retB A hret (by simp) hlk at_161 (z' := 1) (by decide) (by decide) (by decide) rfl
set_option maxRecDepth 65536 in
set_option maxHeartbeats 40000000 in
theorem k0_1 (l : Launch) (Z : State) (n0 : Nat) (a0 : Array Value) (hw : ∀ d ∈ tables_1, d.before a0 Z = true) (h : Heap) (a_EXACTLY_ONE : Addr) (S_EXACTLY_ONE : Sta Z h "carewill/validate/Cardinality" "EXACTLY_ONE" "Lcarewill/validate/Cardinality;" (.ref a_EXACTLY_ONE)) (E_EXACTLY_ONE : Exa Z h a_EXACTLY_ONE "carewill/validate/Cardinality") (F_EXACTLY_ONE_min : Fld Z h a_EXACTLY_ONE "carewill/validate/Cardinality" "min" "I" (.int (1 : Int32))) (F_EXACTLY_ONE_max : Fld Z h a_EXACTLY_ONE "carewill/validate/Cardinality" "max" "I" (.int (1 : Int32))) (a_ZERO_OR_ONE : Addr) (S_ZERO_OR_ONE : Sta Z h "carewill/validate/Cardinality" "ZERO_OR_ONE" "Lcarewill/validate/Cardinality;" (.ref a_ZERO_OR_ONE)) (E_ZERO_OR_ONE : Exa Z h a_ZERO_OR_ONE "carewill/validate/Cardinality") (F_ZERO_OR_ONE_min : Fld Z h a_ZERO_OR_ONE "carewill/validate/Cardinality" "min" "I" (.int (0 : Int32))) (F_ZERO_OR_ONE_max : Fld Z h a_ZERO_OR_ONE "carewill/validate/Cardinality" "max" "I" (.int (1 : Int32))) (a_AT_LEAST_ONE : Addr) (S_AT_LEAST_ONE : Sta Z h "carewill/validate/Cardinality" "AT_LEAST_ONE" "Lcarewill/validate/Cardinality;" (.ref a_AT_LEAST_ONE)) (E_AT_LEAST_ONE : Exa Z h a_AT_LEAST_ONE "carewill/validate/Cardinality") (F_AT_LEAST_ONE_min : Fld Z h a_AT_LEAST_ONE "carewill/validate/Cardinality" "min" "I" (.int (1 : Int32))) (F_AT_LEAST_ONE_max : Fld Z h a_AT_LEAST_ONE "carewill/validate/Cardinality" "max" "I" (.int (2147483647 : Int32))) (a_ZERO_OR_MORE : Addr) (S_ZERO_OR_MORE : Sta Z h "carewill/validate/Cardinality" "ZERO_OR_MORE" "Lcarewill/validate/Cardinality;" (.ref a_ZERO_OR_MORE)) (E_ZERO_OR_MORE : Exa Z h a_ZERO_OR_MORE "carewill/validate/Cardinality") (F_ZERO_OR_MORE_min : Fld Z h a_ZERO_OR_MORE "carewill/validate/Cardinality" "min" "I" (.int (0 : Int32))) (F_ZERO_OR_MORE_max : Fld Z h a_ZERO_OR_MORE "carewill/validate/Cardinality" "max" "I" (.int (2147483647 : Int32))) (a_NONE : Addr) (S_NONE : Sta Z h "carewill/validate/Cardinality" "NONE" "Lcarewill/validate/Cardinality;" (.ref a_NONE)) (E_NONE : Exa Z h a_NONE "carewill/validate/Cardinality") (F_NONE_min : Fld Z h a_NONE "carewill/validate/Cardinality" "min" "I" (.int (0 : Int32))) (F_NONE_max : Fld Z h a_NONE "carewill/validate/Cardinality" "max" "I" (.int (0 : Int32))) : Con l Z n0 x code maxLocals ret room_1 #[(.int (1 : Int32))] h (fun v _ => v = some (.int 1)) := by
  refine Con.mk (Ls := #[.val (.int (1 : Int32)), .unset, .unset, .unset, .unset, .unset]) pn_carewill_validate_CardinalityAllowsPinLaw (ef0_i (1 : Int32)) ?_
  intro p e s m below meth c A hret hlk hnm
  have l_0 : (0 : Int32).toInt = 0 := by decide
  have l_1 : (1 : Int32).toInt = 1 := by decide
  have l_m : (2147483647 : Int32).toInt = 2147483647 := by decide
  refine Goes.getS A (hw _ (List.mem_of_getElem? (i := 0) rfl)) Via.refl S_EXACTLY_ONE at_0 ?_
  refine Goes.blk A _ b0_3_1 (pc' := 4) (Ls' := #[.val (.int (1 : Int32)), .unset, .unset, .unset, .unset, .unset]) (st' := [(.int (1 : Int32)), (.ref a_EXACTLY_ONE)]) rfl ?_
  refine Goes.virt A (hw _ (List.mem_of_getElem? (i := 3) rfl)) (hw _ (List.mem_of_getElem? (i := 4) rfl)) (hw _ (List.mem_of_getElem? (i := 6) rfl)) (hw _ (List.mem_of_getElem? (i := 6) rfl)) (hw _ (List.mem_of_getElem? (i := 5) rfl)) (hw _ (List.mem_of_getElem? (i := 1) rfl)) (hw _ (List.mem_of_getElem? (i := 7) rfl)) at_4 pd_727780 (by decide) E_EXACTLY_ONE (argsL := [(.int (1 : Int32))]) (rest := []) rfl rfl rfl (W := 0) (Nat.le_of_ble_eq_true rfl) (by decide) (by decide) (by decide) (by decide) (k1 l Z n0 a0 hw h a_EXACTLY_ONE (1 : Int32) 1 1 1 (by rw [if_pos (by omega)]) F_EXACTLY_ONE_min F_EXACTLY_ONE_max) (fun v hq hh => ?_)
  obtain ⟨rfl, rfl⟩ := hh
  show Goes p l e _ s m _ below meth c n0 _ h 0 0 7 #[.val (.int (1 : Int32)), .unset, .unset, .unset, .unset, .unset] [(.int (1 : Int32))]
  refine Goes.blk A _ b0_7_2 (pc' := 9) (Ls' := #[.val (.int (1 : Int32)), .unset, .unset, .unset, .unset, .unset]) (st' := [(.int (1 : Int32)), (.int (1 : Int32)), (.int (1 : Int32))]) rfl ?_
  refine Goes.if2 A at_9 (by decide) (pc' := 16) (by decide) (fun hc => absurd hc (cP_f (by decide))) (fun hc1 => ?_)
  refine Goes.blk A _ b0_12_1 (pc' := 13) (Ls' := #[.val (.int (1 : Int32)), .unset, .unset, .unset, .unset, .unset]) (st' := [(.int (1 : Int32)), (.int (1 : Int32))]) rfl ?_
  refine Goes.jump A at_13 (by decide) (pc' := 17) (by decide) ?_
  refine Goes.if2 A at_17 (by decide) (pc' := 24) (by decide) (fun hc => absurd hc (cP_f (by decide))) (fun hc2 => ?_)
  refine Goes.blk A _ b0_20_1 (pc' := 21) (Ls' := #[.val (.int (1 : Int32)), .unset, .unset, .unset, .unset, .unset]) (st' := [(.int (1 : Int32))]) rfl ?_
  refine Goes.jump A at_21 (by decide) (pc' := 25) (by decide) ?_
  refine Goes.blk A _ b0_25_1 (pc' := 26) (Ls' := #[.val (.int (1 : Int32)), .val (.int (1 : Int32)), .unset, .unset, .unset, .unset]) (st' := []) rfl ?_
  refine Goes.getS A (hw _ (List.mem_of_getElem? (i := 10) rfl)) Via.refl S_ZERO_OR_ONE at_26 ?_
  refine Goes.blk A _ b0_29_1 (pc' := 30) (Ls' := #[.val (.int (1 : Int32)), .val (.int (1 : Int32)), .unset, .unset, .unset, .unset]) (st' := [(.int (1 : Int32)), (.ref a_ZERO_OR_ONE)]) rfl ?_
  refine Goes.virt A (hw _ (List.mem_of_getElem? (i := 3) rfl)) (hw _ (List.mem_of_getElem? (i := 4) rfl)) (hw _ (List.mem_of_getElem? (i := 6) rfl)) (hw _ (List.mem_of_getElem? (i := 6) rfl)) (hw _ (List.mem_of_getElem? (i := 5) rfl)) (hw _ (List.mem_of_getElem? (i := 1) rfl)) (hw _ (List.mem_of_getElem? (i := 7) rfl)) at_30 pd_727780 (by decide) E_ZERO_OR_ONE (argsL := [(.int (1 : Int32))]) (rest := []) rfl rfl rfl (W := 0) (Nat.le_of_ble_eq_true rfl) (by decide) (by decide) (by decide) (by decide) (k1 l Z n0 a0 hw h a_ZERO_OR_ONE (1 : Int32) 0 1 1 (by rw [if_pos (by omega)]) F_ZERO_OR_ONE_min F_ZERO_OR_ONE_max) (fun v hq hh => ?_)
  obtain ⟨rfl, rfl⟩ := hh
  show Goes p l e _ s m _ below meth c n0 _ h 0 0 33 #[.val (.int (1 : Int32)), .val (.int (1 : Int32)), .unset, .unset, .unset, .unset] [(.int (1 : Int32))]
  refine Goes.blk A _ b0_33_1 (pc' := 34) (Ls' := #[.val (.int (1 : Int32)), .val (.int (1 : Int32)), .unset, .unset, .unset, .unset]) (st' := [(.int (1 : Int32)), (.int (1 : Int32))]) rfl ?_
  refine Goes.if1 A at_34 (by decide) (pc' := 42) (by decide) (fun hc => absurd hc (cP_f (by decide))) (fun hc3 => ?_)
  refine Goes.blk A _ b0_37_2 (pc' := 39) (Ls' := #[.val (.int (1 : Int32)), .val (.int (1 : Int32)), .unset, .unset, .unset, .unset]) (st' := [(.int (1 : Int32)), (.int (1 : Int32)), (.int (1 : Int32))]) rfl ?_
  refine Goes.if2 A at_39 (by decide) (pc' := 46) (by decide) (fun hc => absurd hc (cP_f (by decide))) (fun hc4 => ?_)
  refine Goes.blk A _ b0_42_1 (pc' := 43) (Ls' := #[.val (.int (1 : Int32)), .val (.int (1 : Int32)), .unset, .unset, .unset, .unset]) (st' := [(.int (1 : Int32)), (.int (1 : Int32))]) rfl ?_
  refine Goes.jump A at_43 (by decide) (pc' := 47) (by decide) ?_
  refine Goes.if2 A at_47 (by decide) (pc' := 54) (by decide) (fun hc => absurd hc (cP_f (by decide))) (fun hc5 => ?_)
  refine Goes.blk A _ b0_50_1 (pc' := 51) (Ls' := #[.val (.int (1 : Int32)), .val (.int (1 : Int32)), .unset, .unset, .unset, .unset]) (st' := [(.int (1 : Int32))]) rfl ?_
  refine Goes.jump A at_51 (by decide) (pc' := 55) (by decide) ?_
  refine Goes.blk A _ b0_55_1 (pc' := 56) (Ls' := #[.val (.int (1 : Int32)), .val (.int (1 : Int32)), .val (.int (1 : Int32)), .unset, .unset, .unset]) (st' := []) rfl ?_
  refine Goes.getS A (hw _ (List.mem_of_getElem? (i := 14) rfl)) Via.refl S_AT_LEAST_ONE at_56 ?_
  refine Goes.blk A _ b0_59_1 (pc' := 60) (Ls' := #[.val (.int (1 : Int32)), .val (.int (1 : Int32)), .val (.int (1 : Int32)), .unset, .unset, .unset]) (st' := [(.int (1 : Int32)), (.ref a_AT_LEAST_ONE)]) rfl ?_
  refine Goes.virt A (hw _ (List.mem_of_getElem? (i := 3) rfl)) (hw _ (List.mem_of_getElem? (i := 4) rfl)) (hw _ (List.mem_of_getElem? (i := 6) rfl)) (hw _ (List.mem_of_getElem? (i := 6) rfl)) (hw _ (List.mem_of_getElem? (i := 5) rfl)) (hw _ (List.mem_of_getElem? (i := 1) rfl)) (hw _ (List.mem_of_getElem? (i := 7) rfl)) at_60 pd_727780 (by decide) E_AT_LEAST_ONE (argsL := [(.int (1 : Int32))]) (rest := []) rfl rfl rfl (W := 0) (Nat.le_of_ble_eq_true rfl) (by decide) (by decide) (by decide) (by decide) (k1 l Z n0 a0 hw h a_AT_LEAST_ONE (1 : Int32) 1 2147483647 1 (by rw [if_pos (by omega)]) F_AT_LEAST_ONE_min F_AT_LEAST_ONE_max) (fun v hq hh => ?_)
  obtain ⟨rfl, rfl⟩ := hh
  show Goes p l e _ s m _ below meth c n0 _ h 0 0 63 #[.val (.int (1 : Int32)), .val (.int (1 : Int32)), .val (.int (1 : Int32)), .unset, .unset, .unset] [(.int (1 : Int32))]
  refine Goes.blk A _ b0_63_2 (pc' := 65) (Ls' := #[.val (.int (1 : Int32)), .val (.int (1 : Int32)), .val (.int (1 : Int32)), .unset, .unset, .unset]) (st' := [(.int (1 : Int32)), (.int (1 : Int32)), (.int (1 : Int32))]) rfl ?_
  refine Goes.if2 A at_65 (by decide) (pc' := 72) (by decide) (fun hc => absurd hc (cP_f (by decide))) (fun hc6 => ?_)
  refine Goes.blk A _ b0_68_1 (pc' := 69) (Ls' := #[.val (.int (1 : Int32)), .val (.int (1 : Int32)), .val (.int (1 : Int32)), .unset, .unset, .unset]) (st' := [(.int (1 : Int32)), (.int (1 : Int32))]) rfl ?_
  refine Goes.jump A at_69 (by decide) (pc' := 73) (by decide) ?_
  refine Goes.if2 A at_73 (by decide) (pc' := 80) (by decide) (fun hc => absurd hc (cP_f (by decide))) (fun hc7 => ?_)
  refine Goes.blk A _ b0_76_1 (pc' := 77) (Ls' := #[.val (.int (1 : Int32)), .val (.int (1 : Int32)), .val (.int (1 : Int32)), .unset, .unset, .unset]) (st' := [(.int (1 : Int32))]) rfl ?_
  refine Goes.jump A at_77 (by decide) (pc' := 81) (by decide) ?_
  refine Goes.blk A _ b0_81_1 (pc' := 82) (Ls' := #[.val (.int (1 : Int32)), .val (.int (1 : Int32)), .val (.int (1 : Int32)), .val (.int (1 : Int32)), .unset, .unset]) (st' := []) rfl ?_
  refine Goes.getS A (hw _ (List.mem_of_getElem? (i := 16) rfl)) Via.refl S_ZERO_OR_MORE at_82 ?_
  refine Goes.blk A _ b0_85_1 (pc' := 86) (Ls' := #[.val (.int (1 : Int32)), .val (.int (1 : Int32)), .val (.int (1 : Int32)), .val (.int (1 : Int32)), .unset, .unset]) (st' := [(.int (1 : Int32)), (.ref a_ZERO_OR_MORE)]) rfl ?_
  refine Goes.virt A (hw _ (List.mem_of_getElem? (i := 3) rfl)) (hw _ (List.mem_of_getElem? (i := 4) rfl)) (hw _ (List.mem_of_getElem? (i := 6) rfl)) (hw _ (List.mem_of_getElem? (i := 6) rfl)) (hw _ (List.mem_of_getElem? (i := 5) rfl)) (hw _ (List.mem_of_getElem? (i := 1) rfl)) (hw _ (List.mem_of_getElem? (i := 7) rfl)) at_86 pd_727780 (by decide) E_ZERO_OR_MORE (argsL := [(.int (1 : Int32))]) (rest := []) rfl rfl rfl (W := 0) (Nat.le_of_ble_eq_true rfl) (by decide) (by decide) (by decide) (by decide) (k1 l Z n0 a0 hw h a_ZERO_OR_MORE (1 : Int32) 0 2147483647 1 (by rw [if_pos (by omega)]) F_ZERO_OR_MORE_min F_ZERO_OR_MORE_max) (fun v hq hh => ?_)
  obtain ⟨rfl, rfl⟩ := hh
  show Goes p l e _ s m _ below meth c n0 _ h 0 0 89 #[.val (.int (1 : Int32)), .val (.int (1 : Int32)), .val (.int (1 : Int32)), .val (.int (1 : Int32)), .unset, .unset] [(.int (1 : Int32))]
  refine Goes.blk A _ b0_89_1 (pc' := 90) (Ls' := #[.val (.int (1 : Int32)), .val (.int (1 : Int32)), .val (.int (1 : Int32)), .val (.int (1 : Int32)), .unset, .unset]) (st' := [(.int (1 : Int32)), (.int (1 : Int32))]) rfl ?_
  refine Goes.if1 A at_90 (by decide) (pc' := 97) (by decide) (fun hc => absurd hc (cP_f (by decide))) (fun hc8 => ?_)
  refine Goes.blk A _ b0_93_1 (pc' := 94) (Ls' := #[.val (.int (1 : Int32)), .val (.int (1 : Int32)), .val (.int (1 : Int32)), .val (.int (1 : Int32)), .unset, .unset]) (st' := [(.int (1 : Int32)), (.int (1 : Int32))]) rfl ?_
  refine Goes.jump A at_94 (by decide) (pc' := 98) (by decide) ?_
  refine Goes.if2 A at_98 (by decide) (pc' := 105) (by decide) (fun hc => absurd hc (cP_f (by decide))) (fun hc9 => ?_)
  refine Goes.blk A _ b0_101_1 (pc' := 102) (Ls' := #[.val (.int (1 : Int32)), .val (.int (1 : Int32)), .val (.int (1 : Int32)), .val (.int (1 : Int32)), .unset, .unset]) (st' := [(.int (1 : Int32))]) rfl ?_
  refine Goes.jump A at_102 (by decide) (pc' := 106) (by decide) ?_
  refine Goes.blk A _ b0_106_1 (pc' := 108) (Ls' := #[.val (.int (1 : Int32)), .val (.int (1 : Int32)), .val (.int (1 : Int32)), .val (.int (1 : Int32)), .val (.int (1 : Int32)), .unset]) (st' := []) rfl ?_
  refine Goes.getS A (hw _ (List.mem_of_getElem? (i := 18) rfl)) Via.refl S_NONE at_108 ?_
  refine Goes.blk A _ b0_111_1 (pc' := 112) (Ls' := #[.val (.int (1 : Int32)), .val (.int (1 : Int32)), .val (.int (1 : Int32)), .val (.int (1 : Int32)), .val (.int (1 : Int32)), .unset]) (st' := [(.int (1 : Int32)), (.ref a_NONE)]) rfl ?_
  refine Goes.virt A (hw _ (List.mem_of_getElem? (i := 3) rfl)) (hw _ (List.mem_of_getElem? (i := 4) rfl)) (hw _ (List.mem_of_getElem? (i := 6) rfl)) (hw _ (List.mem_of_getElem? (i := 6) rfl)) (hw _ (List.mem_of_getElem? (i := 5) rfl)) (hw _ (List.mem_of_getElem? (i := 1) rfl)) (hw _ (List.mem_of_getElem? (i := 7) rfl)) at_112 pd_727780 (by decide) E_NONE (argsL := [(.int (1 : Int32))]) (rest := []) rfl rfl rfl (W := 0) (Nat.le_of_ble_eq_true rfl) (by decide) (by decide) (by decide) (by decide) (k1 l Z n0 a0 hw h a_NONE (1 : Int32) 0 0 0 (by rw [if_neg (by omega)]) F_NONE_min F_NONE_max) (fun v hq hh => ?_)
  obtain ⟨rfl, rfl⟩ := hh
  show Goes p l e _ s m _ below meth c n0 _ h 0 0 115 #[.val (.int (1 : Int32)), .val (.int (1 : Int32)), .val (.int (1 : Int32)), .val (.int (1 : Int32)), .val (.int (1 : Int32)), .unset] [(.int (0 : Int32))]
  refine Goes.blk A _ b0_115_1 (pc' := 116) (Ls' := #[.val (.int (1 : Int32)), .val (.int (1 : Int32)), .val (.int (1 : Int32)), .val (.int (1 : Int32)), .val (.int (1 : Int32)), .unset]) (st' := [(.int (1 : Int32)), (.int (0 : Int32))]) rfl ?_
  refine Goes.if1 A at_116 (by decide) (pc' := 123) (by decide) (fun hc10 => ?_) (fun hc => absurd (cP_t (by decide)) hc)
  refine Goes.blk A _ b0_123_1 (pc' := 124) (Ls' := #[.val (.int (1 : Int32)), .val (.int (1 : Int32)), .val (.int (1 : Int32)), .val (.int (1 : Int32)), .val (.int (1 : Int32)), .unset]) (st' := [(.int (0 : Int32)), (.int (0 : Int32))]) rfl ?_
  refine Goes.if2 A at_124 (by decide) (pc' := 131) (by decide) (fun hc => absurd hc (cP_f (by decide))) (fun hc11 => ?_)
  refine Goes.blk A _ b0_127_1 (pc' := 128) (Ls' := #[.val (.int (1 : Int32)), .val (.int (1 : Int32)), .val (.int (1 : Int32)), .val (.int (1 : Int32)), .val (.int (1 : Int32)), .unset]) (st' := [(.int (1 : Int32))]) rfl ?_
  refine Goes.jump A at_128 (by decide) (pc' := 132) (by decide) ?_
  refine Goes.blk A _ b0_132_2 (pc' := 135) (Ls' := #[.val (.int (1 : Int32)), .val (.int (1 : Int32)), .val (.int (1 : Int32)), .val (.int (1 : Int32)), .val (.int (1 : Int32)), .val (.int (1 : Int32))]) (st' := [(.int (1 : Int32))]) rfl ?_
  refine Goes.if1 A at_135 (by decide) (pc' := 160) (by decide) (fun hc => absurd hc (cP_f (by decide))) (fun hc12 => ?_)
  refine Goes.blk A _ b0_138_1 (pc' := 139) (Ls' := #[.val (.int (1 : Int32)), .val (.int (1 : Int32)), .val (.int (1 : Int32)), .val (.int (1 : Int32)), .val (.int (1 : Int32)), .val (.int (1 : Int32))]) (st' := [(.int (1 : Int32))]) rfl ?_
  refine Goes.if1 A at_139 (by decide) (pc' := 160) (by decide) (fun hc => absurd hc (cP_f (by decide))) (fun hc13 => ?_)
  refine Goes.blk A _ b0_142_1 (pc' := 143) (Ls' := #[.val (.int (1 : Int32)), .val (.int (1 : Int32)), .val (.int (1 : Int32)), .val (.int (1 : Int32)), .val (.int (1 : Int32)), .val (.int (1 : Int32))]) (st' := [(.int (1 : Int32))]) rfl ?_
  refine Goes.if1 A at_143 (by decide) (pc' := 160) (by decide) (fun hc => absurd hc (cP_f (by decide))) (fun hc14 => ?_)
  refine Goes.blk A _ b0_146_1 (pc' := 148) (Ls' := #[.val (.int (1 : Int32)), .val (.int (1 : Int32)), .val (.int (1 : Int32)), .val (.int (1 : Int32)), .val (.int (1 : Int32)), .val (.int (1 : Int32))]) (st' := [(.int (1 : Int32))]) rfl ?_
  refine Goes.if1 A at_148 (by decide) (pc' := 160) (by decide) (fun hc => absurd hc (cP_f (by decide))) (fun hc15 => ?_)
  refine Goes.blk A _ b0_151_1 (pc' := 153) (Ls' := #[.val (.int (1 : Int32)), .val (.int (1 : Int32)), .val (.int (1 : Int32)), .val (.int (1 : Int32)), .val (.int (1 : Int32)), .val (.int (1 : Int32))]) (st' := [(.int (1 : Int32))]) rfl ?_
  refine Goes.if1 A at_153 (by decide) (pc' := 160) (by decide) (fun hc => absurd hc (cP_f (by decide))) (fun hc16 => ?_)
  refine Goes.blk A _ b0_156_1 (pc' := 157) (Ls' := #[.val (.int (1 : Int32)), .val (.int (1 : Int32)), .val (.int (1 : Int32)), .val (.int (1 : Int32)), .val (.int (1 : Int32)), .val (.int (1 : Int32))]) (st' := [(.int (1 : Int32))]) rfl ?_
  refine Goes.jump A at_157 (by decide) (pc' := 161) (by decide) ?_
  exact Goes.retB A hret (by simp) hlk at_161 (z' := 1) (by decide) (by decide) (by decide) rfl
set_option maxRecDepth 65536 in
set_option maxHeartbeats 40000000 in
theorem k0_p (l : Launch) (Z : State) (n0 : Nat) (a0 : Array Value) (hw : ∀ d ∈ tables_1, d.before a0 Z = true) (h : Heap) (p1 : Int32) (hn : 1 < p1.toInt) (a_EXACTLY_ONE : Addr) (S_EXACTLY_ONE : Sta Z h "carewill/validate/Cardinality" "EXACTLY_ONE" "Lcarewill/validate/Cardinality;" (.ref a_EXACTLY_ONE)) (E_EXACTLY_ONE : Exa Z h a_EXACTLY_ONE "carewill/validate/Cardinality") (F_EXACTLY_ONE_min : Fld Z h a_EXACTLY_ONE "carewill/validate/Cardinality" "min" "I" (.int (1 : Int32))) (F_EXACTLY_ONE_max : Fld Z h a_EXACTLY_ONE "carewill/validate/Cardinality" "max" "I" (.int (1 : Int32))) (a_ZERO_OR_ONE : Addr) (S_ZERO_OR_ONE : Sta Z h "carewill/validate/Cardinality" "ZERO_OR_ONE" "Lcarewill/validate/Cardinality;" (.ref a_ZERO_OR_ONE)) (E_ZERO_OR_ONE : Exa Z h a_ZERO_OR_ONE "carewill/validate/Cardinality") (F_ZERO_OR_ONE_min : Fld Z h a_ZERO_OR_ONE "carewill/validate/Cardinality" "min" "I" (.int (0 : Int32))) (F_ZERO_OR_ONE_max : Fld Z h a_ZERO_OR_ONE "carewill/validate/Cardinality" "max" "I" (.int (1 : Int32))) (a_AT_LEAST_ONE : Addr) (S_AT_LEAST_ONE : Sta Z h "carewill/validate/Cardinality" "AT_LEAST_ONE" "Lcarewill/validate/Cardinality;" (.ref a_AT_LEAST_ONE)) (E_AT_LEAST_ONE : Exa Z h a_AT_LEAST_ONE "carewill/validate/Cardinality") (F_AT_LEAST_ONE_min : Fld Z h a_AT_LEAST_ONE "carewill/validate/Cardinality" "min" "I" (.int (1 : Int32))) (F_AT_LEAST_ONE_max : Fld Z h a_AT_LEAST_ONE "carewill/validate/Cardinality" "max" "I" (.int (2147483647 : Int32))) (a_ZERO_OR_MORE : Addr) (S_ZERO_OR_MORE : Sta Z h "carewill/validate/Cardinality" "ZERO_OR_MORE" "Lcarewill/validate/Cardinality;" (.ref a_ZERO_OR_MORE)) (E_ZERO_OR_MORE : Exa Z h a_ZERO_OR_MORE "carewill/validate/Cardinality") (F_ZERO_OR_MORE_min : Fld Z h a_ZERO_OR_MORE "carewill/validate/Cardinality" "min" "I" (.int (0 : Int32))) (F_ZERO_OR_MORE_max : Fld Z h a_ZERO_OR_MORE "carewill/validate/Cardinality" "max" "I" (.int (2147483647 : Int32))) (a_NONE : Addr) (S_NONE : Sta Z h "carewill/validate/Cardinality" "NONE" "Lcarewill/validate/Cardinality;" (.ref a_NONE)) (E_NONE : Exa Z h a_NONE "carewill/validate/Cardinality") (F_NONE_min : Fld Z h a_NONE "carewill/validate/Cardinality" "min" "I" (.int (0 : Int32))) (F_NONE_max : Fld Z h a_NONE "carewill/validate/Cardinality" "max" "I" (.int (0 : Int32))) : Con l Z n0 x code maxLocals ret room_1 #[(.int p1)] h (fun v _ => v = some (.int 1)) := by
  refine Con.mk (Ls := #[.val (.int p1), .unset, .unset, .unset, .unset, .unset]) pn_carewill_validate_CardinalityAllowsPinLaw (ef0_i p1) ?_
  intro p e s m below meth c A hret hlk hnm
  have l_0 : (0 : Int32).toInt = 0 := by decide
  have l_1 : (1 : Int32).toInt = 1 := by decide
  have l_m : (2147483647 : Int32).toInt = 2147483647 := by decide
  have l_r := p1.toInt_lt
  refine Goes.getS A (hw _ (List.mem_of_getElem? (i := 0) rfl)) Via.refl S_EXACTLY_ONE at_0 ?_
  refine Goes.blk A _ b0_3_1 (pc' := 4) (Ls' := #[.val (.int p1), .unset, .unset, .unset, .unset, .unset]) (st' := [(.int p1), (.ref a_EXACTLY_ONE)]) rfl ?_
  refine Goes.virt A (hw _ (List.mem_of_getElem? (i := 3) rfl)) (hw _ (List.mem_of_getElem? (i := 4) rfl)) (hw _ (List.mem_of_getElem? (i := 6) rfl)) (hw _ (List.mem_of_getElem? (i := 6) rfl)) (hw _ (List.mem_of_getElem? (i := 5) rfl)) (hw _ (List.mem_of_getElem? (i := 1) rfl)) (hw _ (List.mem_of_getElem? (i := 7) rfl)) at_4 pd_727780 (by decide) E_EXACTLY_ONE (argsL := [(.int p1)]) (rest := []) rfl rfl rfl (W := 0) (Nat.le_of_ble_eq_true rfl) (by decide) (by decide) (by decide) (by decide) (k1 l Z n0 a0 hw h a_EXACTLY_ONE p1 1 1 0 (by rw [if_neg (by omega)]) F_EXACTLY_ONE_min F_EXACTLY_ONE_max) (fun v hq hh => ?_)
  obtain ⟨rfl, rfl⟩ := hh
  show Goes p l e _ s m _ below meth c n0 _ h 0 0 7 #[.val (.int p1), .unset, .unset, .unset, .unset, .unset] [(.int (0 : Int32))]
  refine Goes.blk A _ b0_7_2 (pc' := 9) (Ls' := #[.val (.int p1), .unset, .unset, .unset, .unset, .unset]) (st' := [(.int (1 : Int32)), (.int p1), (.int (0 : Int32))]) rfl ?_
  refine Goes.if2 A at_9 (by decide) (pc' := 16) (by decide) (fun hc1 => ?_) (fun hc => (by have q9 := cP_nint hc; simp only [cI] at q9; omega))
  refine Goes.blk A _ b0_16_1 (pc' := 17) (Ls' := #[.val (.int p1), .unset, .unset, .unset, .unset, .unset]) (st' := [(.int (0 : Int32)), (.int (0 : Int32))]) rfl ?_
  refine Goes.if2 A at_17 (by decide) (pc' := 24) (by decide) (fun hc => absurd hc (cP_f (by decide))) (fun hc2 => ?_)
  refine Goes.blk A _ b0_20_1 (pc' := 21) (Ls' := #[.val (.int p1), .unset, .unset, .unset, .unset, .unset]) (st' := [(.int (1 : Int32))]) rfl ?_
  refine Goes.jump A at_21 (by decide) (pc' := 25) (by decide) ?_
  refine Goes.blk A _ b0_25_1 (pc' := 26) (Ls' := #[.val (.int p1), .val (.int (1 : Int32)), .unset, .unset, .unset, .unset]) (st' := []) rfl ?_
  refine Goes.getS A (hw _ (List.mem_of_getElem? (i := 10) rfl)) Via.refl S_ZERO_OR_ONE at_26 ?_
  refine Goes.blk A _ b0_29_1 (pc' := 30) (Ls' := #[.val (.int p1), .val (.int (1 : Int32)), .unset, .unset, .unset, .unset]) (st' := [(.int p1), (.ref a_ZERO_OR_ONE)]) rfl ?_
  refine Goes.virt A (hw _ (List.mem_of_getElem? (i := 3) rfl)) (hw _ (List.mem_of_getElem? (i := 4) rfl)) (hw _ (List.mem_of_getElem? (i := 6) rfl)) (hw _ (List.mem_of_getElem? (i := 6) rfl)) (hw _ (List.mem_of_getElem? (i := 5) rfl)) (hw _ (List.mem_of_getElem? (i := 1) rfl)) (hw _ (List.mem_of_getElem? (i := 7) rfl)) at_30 pd_727780 (by decide) E_ZERO_OR_ONE (argsL := [(.int p1)]) (rest := []) rfl rfl rfl (W := 0) (Nat.le_of_ble_eq_true rfl) (by decide) (by decide) (by decide) (by decide) (k1 l Z n0 a0 hw h a_ZERO_OR_ONE p1 0 1 0 (by rw [if_neg (by omega)]) F_ZERO_OR_ONE_min F_ZERO_OR_ONE_max) (fun v hq hh => ?_)
  obtain ⟨rfl, rfl⟩ := hh
  show Goes p l e _ s m _ below meth c n0 _ h 0 0 33 #[.val (.int p1), .val (.int (1 : Int32)), .unset, .unset, .unset, .unset] [(.int (0 : Int32))]
  refine Goes.blk A _ b0_33_1 (pc' := 34) (Ls' := #[.val (.int p1), .val (.int (1 : Int32)), .unset, .unset, .unset, .unset]) (st' := [(.int p1), (.int (0 : Int32))]) rfl ?_
  refine Goes.if1 A at_34 (by decide) (pc' := 42) (by decide) (fun hc => (by have q9 := cP_int hc; simp only [cI] at q9; omega)) (fun hc3 => ?_)
  refine Goes.blk A _ b0_37_2 (pc' := 39) (Ls' := #[.val (.int p1), .val (.int (1 : Int32)), .unset, .unset, .unset, .unset]) (st' := [(.int (1 : Int32)), (.int p1), (.int (0 : Int32))]) rfl ?_
  refine Goes.if2 A at_39 (by decide) (pc' := 46) (by decide) (fun hc4 => ?_) (fun hc => (by have q9 := cP_nint hc; simp only [cI] at q9; omega))
  refine Goes.blk A _ b0_46_1 (pc' := 47) (Ls' := #[.val (.int p1), .val (.int (1 : Int32)), .unset, .unset, .unset, .unset]) (st' := [(.int (0 : Int32)), (.int (0 : Int32))]) rfl ?_
  refine Goes.if2 A at_47 (by decide) (pc' := 54) (by decide) (fun hc => absurd hc (cP_f (by decide))) (fun hc5 => ?_)
  refine Goes.blk A _ b0_50_1 (pc' := 51) (Ls' := #[.val (.int p1), .val (.int (1 : Int32)), .unset, .unset, .unset, .unset]) (st' := [(.int (1 : Int32))]) rfl ?_
  refine Goes.jump A at_51 (by decide) (pc' := 55) (by decide) ?_
  refine Goes.blk A _ b0_55_1 (pc' := 56) (Ls' := #[.val (.int p1), .val (.int (1 : Int32)), .val (.int (1 : Int32)), .unset, .unset, .unset]) (st' := []) rfl ?_
  refine Goes.getS A (hw _ (List.mem_of_getElem? (i := 14) rfl)) Via.refl S_AT_LEAST_ONE at_56 ?_
  refine Goes.blk A _ b0_59_1 (pc' := 60) (Ls' := #[.val (.int p1), .val (.int (1 : Int32)), .val (.int (1 : Int32)), .unset, .unset, .unset]) (st' := [(.int p1), (.ref a_AT_LEAST_ONE)]) rfl ?_
  refine Goes.virt A (hw _ (List.mem_of_getElem? (i := 3) rfl)) (hw _ (List.mem_of_getElem? (i := 4) rfl)) (hw _ (List.mem_of_getElem? (i := 6) rfl)) (hw _ (List.mem_of_getElem? (i := 6) rfl)) (hw _ (List.mem_of_getElem? (i := 5) rfl)) (hw _ (List.mem_of_getElem? (i := 1) rfl)) (hw _ (List.mem_of_getElem? (i := 7) rfl)) at_60 pd_727780 (by decide) E_AT_LEAST_ONE (argsL := [(.int p1)]) (rest := []) rfl rfl rfl (W := 0) (Nat.le_of_ble_eq_true rfl) (by decide) (by decide) (by decide) (by decide) (k1 l Z n0 a0 hw h a_AT_LEAST_ONE p1 1 2147483647 1 (by rw [if_pos (by omega)]) F_AT_LEAST_ONE_min F_AT_LEAST_ONE_max) (fun v hq hh => ?_)
  obtain ⟨rfl, rfl⟩ := hh
  show Goes p l e _ s m _ below meth c n0 _ h 0 0 63 #[.val (.int p1), .val (.int (1 : Int32)), .val (.int (1 : Int32)), .unset, .unset, .unset] [(.int (1 : Int32))]
  refine Goes.blk A _ b0_63_2 (pc' := 65) (Ls' := #[.val (.int p1), .val (.int (1 : Int32)), .val (.int (1 : Int32)), .unset, .unset, .unset]) (st' := [(.int (1 : Int32)), (.int p1), (.int (1 : Int32))]) rfl ?_
  refine Goes.if2 A at_65 (by decide) (pc' := 72) (by decide) (fun hc => (by have q9 := cP_int hc; simp only [cI] at q9; omega)) (fun hc6 => ?_)
  refine Goes.blk A _ b0_68_1 (pc' := 69) (Ls' := #[.val (.int p1), .val (.int (1 : Int32)), .val (.int (1 : Int32)), .unset, .unset, .unset]) (st' := [(.int (1 : Int32)), (.int (1 : Int32))]) rfl ?_
  refine Goes.jump A at_69 (by decide) (pc' := 73) (by decide) ?_
  refine Goes.if2 A at_73 (by decide) (pc' := 80) (by decide) (fun hc => absurd hc (cP_f (by decide))) (fun hc7 => ?_)
  refine Goes.blk A _ b0_76_1 (pc' := 77) (Ls' := #[.val (.int p1), .val (.int (1 : Int32)), .val (.int (1 : Int32)), .unset, .unset, .unset]) (st' := [(.int (1 : Int32))]) rfl ?_
  refine Goes.jump A at_77 (by decide) (pc' := 81) (by decide) ?_
  refine Goes.blk A _ b0_81_1 (pc' := 82) (Ls' := #[.val (.int p1), .val (.int (1 : Int32)), .val (.int (1 : Int32)), .val (.int (1 : Int32)), .unset, .unset]) (st' := []) rfl ?_
  refine Goes.getS A (hw _ (List.mem_of_getElem? (i := 16) rfl)) Via.refl S_ZERO_OR_MORE at_82 ?_
  refine Goes.blk A _ b0_85_1 (pc' := 86) (Ls' := #[.val (.int p1), .val (.int (1 : Int32)), .val (.int (1 : Int32)), .val (.int (1 : Int32)), .unset, .unset]) (st' := [(.int p1), (.ref a_ZERO_OR_MORE)]) rfl ?_
  refine Goes.virt A (hw _ (List.mem_of_getElem? (i := 3) rfl)) (hw _ (List.mem_of_getElem? (i := 4) rfl)) (hw _ (List.mem_of_getElem? (i := 6) rfl)) (hw _ (List.mem_of_getElem? (i := 6) rfl)) (hw _ (List.mem_of_getElem? (i := 5) rfl)) (hw _ (List.mem_of_getElem? (i := 1) rfl)) (hw _ (List.mem_of_getElem? (i := 7) rfl)) at_86 pd_727780 (by decide) E_ZERO_OR_MORE (argsL := [(.int p1)]) (rest := []) rfl rfl rfl (W := 0) (Nat.le_of_ble_eq_true rfl) (by decide) (by decide) (by decide) (by decide) (k1 l Z n0 a0 hw h a_ZERO_OR_MORE p1 0 2147483647 1 (by rw [if_pos (by omega)]) F_ZERO_OR_MORE_min F_ZERO_OR_MORE_max) (fun v hq hh => ?_)
  obtain ⟨rfl, rfl⟩ := hh
  show Goes p l e _ s m _ below meth c n0 _ h 0 0 89 #[.val (.int p1), .val (.int (1 : Int32)), .val (.int (1 : Int32)), .val (.int (1 : Int32)), .unset, .unset] [(.int (1 : Int32))]
  refine Goes.blk A _ b0_89_1 (pc' := 90) (Ls' := #[.val (.int p1), .val (.int (1 : Int32)), .val (.int (1 : Int32)), .val (.int (1 : Int32)), .unset, .unset]) (st' := [(.int p1), (.int (1 : Int32))]) rfl ?_
  refine Goes.if1 A at_90 (by decide) (pc' := 97) (by decide) (fun hc => (by have q9 := cP_int hc; simp only [cI] at q9; omega)) (fun hc8 => ?_)
  refine Goes.blk A _ b0_93_1 (pc' := 94) (Ls' := #[.val (.int p1), .val (.int (1 : Int32)), .val (.int (1 : Int32)), .val (.int (1 : Int32)), .unset, .unset]) (st' := [(.int (1 : Int32)), (.int (1 : Int32))]) rfl ?_
  refine Goes.jump A at_94 (by decide) (pc' := 98) (by decide) ?_
  refine Goes.if2 A at_98 (by decide) (pc' := 105) (by decide) (fun hc => absurd hc (cP_f (by decide))) (fun hc9 => ?_)
  refine Goes.blk A _ b0_101_1 (pc' := 102) (Ls' := #[.val (.int p1), .val (.int (1 : Int32)), .val (.int (1 : Int32)), .val (.int (1 : Int32)), .unset, .unset]) (st' := [(.int (1 : Int32))]) rfl ?_
  refine Goes.jump A at_102 (by decide) (pc' := 106) (by decide) ?_
  refine Goes.blk A _ b0_106_1 (pc' := 108) (Ls' := #[.val (.int p1), .val (.int (1 : Int32)), .val (.int (1 : Int32)), .val (.int (1 : Int32)), .val (.int (1 : Int32)), .unset]) (st' := []) rfl ?_
  refine Goes.getS A (hw _ (List.mem_of_getElem? (i := 18) rfl)) Via.refl S_NONE at_108 ?_
  refine Goes.blk A _ b0_111_1 (pc' := 112) (Ls' := #[.val (.int p1), .val (.int (1 : Int32)), .val (.int (1 : Int32)), .val (.int (1 : Int32)), .val (.int (1 : Int32)), .unset]) (st' := [(.int p1), (.ref a_NONE)]) rfl ?_
  refine Goes.virt A (hw _ (List.mem_of_getElem? (i := 3) rfl)) (hw _ (List.mem_of_getElem? (i := 4) rfl)) (hw _ (List.mem_of_getElem? (i := 6) rfl)) (hw _ (List.mem_of_getElem? (i := 6) rfl)) (hw _ (List.mem_of_getElem? (i := 5) rfl)) (hw _ (List.mem_of_getElem? (i := 1) rfl)) (hw _ (List.mem_of_getElem? (i := 7) rfl)) at_112 pd_727780 (by decide) E_NONE (argsL := [(.int p1)]) (rest := []) rfl rfl rfl (W := 0) (Nat.le_of_ble_eq_true rfl) (by decide) (by decide) (by decide) (by decide) (k1 l Z n0 a0 hw h a_NONE p1 0 0 0 (by rw [if_neg (by omega)]) F_NONE_min F_NONE_max) (fun v hq hh => ?_)
  obtain ⟨rfl, rfl⟩ := hh
  show Goes p l e _ s m _ below meth c n0 _ h 0 0 115 #[.val (.int p1), .val (.int (1 : Int32)), .val (.int (1 : Int32)), .val (.int (1 : Int32)), .val (.int (1 : Int32)), .unset] [(.int (0 : Int32))]
  refine Goes.blk A _ b0_115_1 (pc' := 116) (Ls' := #[.val (.int p1), .val (.int (1 : Int32)), .val (.int (1 : Int32)), .val (.int (1 : Int32)), .val (.int (1 : Int32)), .unset]) (st' := [(.int p1), (.int (0 : Int32))]) rfl ?_
  refine Goes.if1 A at_116 (by decide) (pc' := 123) (by decide) (fun hc10 => ?_) (fun hc => (by have q9 := cP_nint hc; simp only [cI] at q9; omega))
  refine Goes.blk A _ b0_123_1 (pc' := 124) (Ls' := #[.val (.int p1), .val (.int (1 : Int32)), .val (.int (1 : Int32)), .val (.int (1 : Int32)), .val (.int (1 : Int32)), .unset]) (st' := [(.int (0 : Int32)), (.int (0 : Int32))]) rfl ?_
  refine Goes.if2 A at_124 (by decide) (pc' := 131) (by decide) (fun hc => absurd hc (cP_f (by decide))) (fun hc11 => ?_)
  refine Goes.blk A _ b0_127_1 (pc' := 128) (Ls' := #[.val (.int p1), .val (.int (1 : Int32)), .val (.int (1 : Int32)), .val (.int (1 : Int32)), .val (.int (1 : Int32)), .unset]) (st' := [(.int (1 : Int32))]) rfl ?_
  refine Goes.jump A at_128 (by decide) (pc' := 132) (by decide) ?_
  refine Goes.blk A _ b0_132_2 (pc' := 135) (Ls' := #[.val (.int p1), .val (.int (1 : Int32)), .val (.int (1 : Int32)), .val (.int (1 : Int32)), .val (.int (1 : Int32)), .val (.int (1 : Int32))]) (st' := [(.int (1 : Int32))]) rfl ?_
  refine Goes.if1 A at_135 (by decide) (pc' := 160) (by decide) (fun hc => absurd hc (cP_f (by decide))) (fun hc12 => ?_)
  refine Goes.blk A _ b0_138_1 (pc' := 139) (Ls' := #[.val (.int p1), .val (.int (1 : Int32)), .val (.int (1 : Int32)), .val (.int (1 : Int32)), .val (.int (1 : Int32)), .val (.int (1 : Int32))]) (st' := [(.int (1 : Int32))]) rfl ?_
  refine Goes.if1 A at_139 (by decide) (pc' := 160) (by decide) (fun hc => absurd hc (cP_f (by decide))) (fun hc13 => ?_)
  refine Goes.blk A _ b0_142_1 (pc' := 143) (Ls' := #[.val (.int p1), .val (.int (1 : Int32)), .val (.int (1 : Int32)), .val (.int (1 : Int32)), .val (.int (1 : Int32)), .val (.int (1 : Int32))]) (st' := [(.int (1 : Int32))]) rfl ?_
  refine Goes.if1 A at_143 (by decide) (pc' := 160) (by decide) (fun hc => absurd hc (cP_f (by decide))) (fun hc14 => ?_)
  refine Goes.blk A _ b0_146_1 (pc' := 148) (Ls' := #[.val (.int p1), .val (.int (1 : Int32)), .val (.int (1 : Int32)), .val (.int (1 : Int32)), .val (.int (1 : Int32)), .val (.int (1 : Int32))]) (st' := [(.int (1 : Int32))]) rfl ?_
  refine Goes.if1 A at_148 (by decide) (pc' := 160) (by decide) (fun hc => absurd hc (cP_f (by decide))) (fun hc15 => ?_)
  refine Goes.blk A _ b0_151_1 (pc' := 153) (Ls' := #[.val (.int p1), .val (.int (1 : Int32)), .val (.int (1 : Int32)), .val (.int (1 : Int32)), .val (.int (1 : Int32)), .val (.int (1 : Int32))]) (st' := [(.int (1 : Int32))]) rfl ?_
  refine Goes.if1 A at_153 (by decide) (pc' := 160) (by decide) (fun hc => absurd hc (cP_f (by decide))) (fun hc16 => ?_)
  refine Goes.blk A _ b0_156_1 (pc' := 157) (Ls' := #[.val (.int p1), .val (.int (1 : Int32)), .val (.int (1 : Int32)), .val (.int (1 : Int32)), .val (.int (1 : Int32)), .val (.int (1 : Int32))]) (st' := [(.int (1 : Int32))]) rfl ?_
  refine Goes.jump A at_157 (by decide) (pc' := 161) (by decide) ?_
  exact Goes.retB A hret (by simp) hlk at_161 (z' := 1) (by decide) (by decide) (by decide) rfl
theorem k0 (l : Launch) (Z : State) (n0 : Nat) (a0 : Array Value) (hw : ∀ d ∈ tables_1, d.before a0 Z = true) (h : Heap) (p1 : Int32) (a_EXACTLY_ONE : Addr) (S_EXACTLY_ONE : Sta Z h "carewill/validate/Cardinality" "EXACTLY_ONE" "Lcarewill/validate/Cardinality;" (.ref a_EXACTLY_ONE)) (E_EXACTLY_ONE : Exa Z h a_EXACTLY_ONE "carewill/validate/Cardinality") (F_EXACTLY_ONE_min : Fld Z h a_EXACTLY_ONE "carewill/validate/Cardinality" "min" "I" (.int (1 : Int32))) (F_EXACTLY_ONE_max : Fld Z h a_EXACTLY_ONE "carewill/validate/Cardinality" "max" "I" (.int (1 : Int32))) (a_ZERO_OR_ONE : Addr) (S_ZERO_OR_ONE : Sta Z h "carewill/validate/Cardinality" "ZERO_OR_ONE" "Lcarewill/validate/Cardinality;" (.ref a_ZERO_OR_ONE)) (E_ZERO_OR_ONE : Exa Z h a_ZERO_OR_ONE "carewill/validate/Cardinality") (F_ZERO_OR_ONE_min : Fld Z h a_ZERO_OR_ONE "carewill/validate/Cardinality" "min" "I" (.int (0 : Int32))) (F_ZERO_OR_ONE_max : Fld Z h a_ZERO_OR_ONE "carewill/validate/Cardinality" "max" "I" (.int (1 : Int32))) (a_AT_LEAST_ONE : Addr) (S_AT_LEAST_ONE : Sta Z h "carewill/validate/Cardinality" "AT_LEAST_ONE" "Lcarewill/validate/Cardinality;" (.ref a_AT_LEAST_ONE)) (E_AT_LEAST_ONE : Exa Z h a_AT_LEAST_ONE "carewill/validate/Cardinality") (F_AT_LEAST_ONE_min : Fld Z h a_AT_LEAST_ONE "carewill/validate/Cardinality" "min" "I" (.int (1 : Int32))) (F_AT_LEAST_ONE_max : Fld Z h a_AT_LEAST_ONE "carewill/validate/Cardinality" "max" "I" (.int (2147483647 : Int32))) (a_ZERO_OR_MORE : Addr) (S_ZERO_OR_MORE : Sta Z h "carewill/validate/Cardinality" "ZERO_OR_MORE" "Lcarewill/validate/Cardinality;" (.ref a_ZERO_OR_MORE)) (E_ZERO_OR_MORE : Exa Z h a_ZERO_OR_MORE "carewill/validate/Cardinality") (F_ZERO_OR_MORE_min : Fld Z h a_ZERO_OR_MORE "carewill/validate/Cardinality" "min" "I" (.int (0 : Int32))) (F_ZERO_OR_MORE_max : Fld Z h a_ZERO_OR_MORE "carewill/validate/Cardinality" "max" "I" (.int (2147483647 : Int32))) (a_NONE : Addr) (S_NONE : Sta Z h "carewill/validate/Cardinality" "NONE" "Lcarewill/validate/Cardinality;" (.ref a_NONE)) (E_NONE : Exa Z h a_NONE "carewill/validate/Cardinality") (F_NONE_min : Fld Z h a_NONE "carewill/validate/Cardinality" "min" "I" (.int (0 : Int32))) (F_NONE_max : Fld Z h a_NONE "carewill/validate/Cardinality" "max" "I" (.int (0 : Int32))) : Con l Z n0 x code maxLocals ret room_1 #[(.int p1)] h (fun v _ => v = some (.int 1)) := by
  rcases (by omega : p1.toInt < 0 ∨ p1.toInt = 0 ∨ p1.toInt = 1 ∨ 1 < p1.toInt) with q | q | q | q
  · exact k0_m l Z n0 a0 hw h p1 q a_EXACTLY_ONE S_EXACTLY_ONE E_EXACTLY_ONE F_EXACTLY_ONE_min F_EXACTLY_ONE_max a_ZERO_OR_ONE S_ZERO_OR_ONE E_ZERO_OR_ONE F_ZERO_OR_ONE_min F_ZERO_OR_ONE_max a_AT_LEAST_ONE S_AT_LEAST_ONE E_AT_LEAST_ONE F_AT_LEAST_ONE_min F_AT_LEAST_ONE_max a_ZERO_OR_MORE S_ZERO_OR_MORE E_ZERO_OR_MORE F_ZERO_OR_MORE_min F_ZERO_OR_MORE_max a_NONE S_NONE E_NONE F_NONE_min F_NONE_max
  · obtain rfl : p1 = 0 := Int32.toInt_inj.mp (q.trans (by decide))
    exact k0_0 l Z n0 a0 hw h a_EXACTLY_ONE S_EXACTLY_ONE E_EXACTLY_ONE F_EXACTLY_ONE_min F_EXACTLY_ONE_max a_ZERO_OR_ONE S_ZERO_OR_ONE E_ZERO_OR_ONE F_ZERO_OR_ONE_min F_ZERO_OR_ONE_max a_AT_LEAST_ONE S_AT_LEAST_ONE E_AT_LEAST_ONE F_AT_LEAST_ONE_min F_AT_LEAST_ONE_max a_ZERO_OR_MORE S_ZERO_OR_MORE E_ZERO_OR_MORE F_ZERO_OR_MORE_min F_ZERO_OR_MORE_max a_NONE S_NONE E_NONE F_NONE_min F_NONE_max
  · obtain rfl : p1 = 1 := Int32.toInt_inj.mp (q.trans (by decide))
    exact k0_1 l Z n0 a0 hw h a_EXACTLY_ONE S_EXACTLY_ONE E_EXACTLY_ONE F_EXACTLY_ONE_min F_EXACTLY_ONE_max a_ZERO_OR_ONE S_ZERO_OR_ONE E_ZERO_OR_ONE F_ZERO_OR_ONE_min F_ZERO_OR_ONE_max a_AT_LEAST_ONE S_AT_LEAST_ONE E_AT_LEAST_ONE F_AT_LEAST_ONE_min F_AT_LEAST_ONE_max a_ZERO_OR_MORE S_ZERO_OR_MORE E_ZERO_OR_MORE F_ZERO_OR_MORE_min F_ZERO_OR_MORE_max a_NONE S_NONE E_NONE F_NONE_min F_NONE_max
  · exact k0_p l Z n0 a0 hw h p1 q a_EXACTLY_ONE S_EXACTLY_ONE E_EXACTLY_ONE F_EXACTLY_ONE_min F_EXACTLY_ONE_max a_ZERO_OR_ONE S_ZERO_OR_ONE E_ZERO_OR_ONE F_ZERO_OR_ONE_min F_ZERO_OR_ONE_max a_AT_LEAST_ONE S_AT_LEAST_ONE E_AT_LEAST_ONE F_AT_LEAST_ONE_min F_AT_LEAST_ONE_max a_ZERO_OR_MORE S_ZERO_OR_MORE E_ZERO_OR_MORE F_ZERO_OR_MORE_min F_ZERO_OR_MORE_max a_NONE S_NONE E_NONE F_NONE_min F_NONE_max
theorem own_fld {args : Array Value} {s : State} {t : Term} {a : Addr} {O n d : String} {k : Int32} (ev : t.eval args s none [] s = some (.ref a)) (hq : (Jvm.Cond.eq (Term.field t O n d) (Term.int k)).value args s none s [] = some true) : Fld s s.heap a O n d (.int k) := by
  refine Fld.start ?_
  have e1 := fld_at (C := O) (n := n) (dd := d) ev
  have e2 : (Term.int k).eval args s none [] s = some (.int k) := rfl
  simp only [Cond.value] at hq
  rw [e1, e2] at hq
  cases hf : s.fieldOf? a O n d with
  | none => rw [hf] at hq; cases hq
  | some v => rw [hf] at hq; cases v <;> simp at hq ⊢; exact hq
set_option maxRecDepth 65536 in
set_option maxHeartbeats 40000000 in
theorem comes_1 {Post : Tables → Env → Array Value → State → Outcome → State → Prop} (hpost : ∀ tb e args s v u, (limb_1_1.after args s (.returned v) u = true ∧ limb_1_2.after args s (.returned v) u = true ∧ True) → FrameEnd s (.returned v) u (Jvm.fieldLocs frame_1_writes args s ++ Jvm.arrayLocs frame_1_arrays args s ++ Jvm.staticLocs frame_1_statics s) 0 0 → Post tb e args s (.returned v) u) :
    ArmFor flags0 classFile x code maxLocals ret World_1 tables_1 room_1 Calls_1 rest_1 Pre_1 Post := by
  intro l hfl _ _ p e ha hc hk s m args below hf hA hF happ hP
  obtain ⟨hcalls, hrest, hpre⟩ := hP
  obtain ⟨-, -, -, hnamed, -, -, -, hat⟩ := (Spec.applies_iff hf).mp happ
  obtain ⟨hg, hn⟩ := and_e (Cond.before_iff.mp (show (Jvm.Cond.and given_1 narrow_1).before args s = true from hpre))
  obtain ⟨gc, g0⟩ := and_e hg
  obtain ⟨w0, rfl⟩ : ∃ w0 : Value, args = #[w0] := by
    have hs : args.size = 1 := by simpa [Cond.value, given_1] using gc
    obtain ⟨L⟩ := args
    match L, hs with
    | [w0], _ => exact ⟨w0, rfl⟩
  have hw := fun d (hd : d ∈ tables_1) => atoms_spec (ws := Jvm.Cond.code x code maxLocals ret :: tables_1) hat d (List.mem_cons_of_mem _ hd)
  have hfit : Fit s := fun {y c} hc i hi => by
    obtain ⟨ha, rfl⟩ := Array.getElem?_eq_some_iff.mp hc
    have q := List.all_eq_true.mp ((Array.all_eq_true_iff_forall_mem.mp hF) _ (Array.getElem_mem ha)) i (List.mem_range.mpr hi)
    simpa [Array.getElem?_eq_getElem hi] using q
  obtain ⟨i0, ei0⟩ := is_v g0
  obtain rfl : w0 = (.int i0) := Option.some.inj ei0
  obtain ⟨q0, r0⟩ := and_e hn
  obtain ⟨q1, r1⟩ := and_e r0
  obtain ⟨q2, r2⟩ := and_e r1
  obtain ⟨q3, r3⟩ := and_e r2
  obtain ⟨q4, r4⟩ := and_e r3
  obtain ⟨q5, r5⟩ := and_e r4
  obtain ⟨q6, r6⟩ := and_e r5
  obtain ⟨q7, r7⟩ := and_e r6
  obtain ⟨q8, r8⟩ := and_e r7
  obtain ⟨q9, r9⟩ := and_e r8
  obtain ⟨q10, r10⟩ := and_e r9
  obtain ⟨q11, r11⟩ := and_e r10
  obtain ⟨q12, r12⟩ := and_e r11
  obtain ⟨q13, r13⟩ := and_e r12
  obtain ⟨a_EXACTLY_ONE, ev_EXACTLY_ONE⟩ := exa_v q0
  have S_EXACTLY_ONE : Sta s s.heap "carewill/validate/Cardinality" "EXACTLY_ONE" "Lcarewill/validate/Cardinality;" (.ref a_EXACTLY_ONE) := Sta.start ev_EXACTLY_ONE (Or.inr ⟨(hw _ (List.mem_of_getElem? (i := 1) rfl)), (hw _ (List.mem_of_getElem? (i := 2) rfl))⟩)
  have E_EXACTLY_ONE : Exa s s.heap a_EXACTLY_ONE "carewill/validate/Cardinality" := Exa.start ev_EXACTLY_ONE q0
  obtain ⟨a_ZERO_OR_ONE, ev_ZERO_OR_ONE⟩ := exa_v q2
  have S_ZERO_OR_ONE : Sta s s.heap "carewill/validate/Cardinality" "ZERO_OR_ONE" "Lcarewill/validate/Cardinality;" (.ref a_ZERO_OR_ONE) := Sta.start ev_ZERO_OR_ONE (Or.inr ⟨(hw _ (List.mem_of_getElem? (i := 1) rfl)), (hw _ (List.mem_of_getElem? (i := 11) rfl))⟩)
  have E_ZERO_OR_ONE : Exa s s.heap a_ZERO_OR_ONE "carewill/validate/Cardinality" := Exa.start ev_ZERO_OR_ONE q2
  obtain ⟨a_AT_LEAST_ONE, ev_AT_LEAST_ONE⟩ := exa_v q5
  have S_AT_LEAST_ONE : Sta s s.heap "carewill/validate/Cardinality" "AT_LEAST_ONE" "Lcarewill/validate/Cardinality;" (.ref a_AT_LEAST_ONE) := Sta.start ev_AT_LEAST_ONE (Or.inr ⟨(hw _ (List.mem_of_getElem? (i := 1) rfl)), (hw _ (List.mem_of_getElem? (i := 15) rfl))⟩)
  have E_AT_LEAST_ONE : Exa s s.heap a_AT_LEAST_ONE "carewill/validate/Cardinality" := Exa.start ev_AT_LEAST_ONE q5
  obtain ⟨a_ZERO_OR_MORE, ev_ZERO_OR_MORE⟩ := exa_v q7
  have S_ZERO_OR_MORE : Sta s s.heap "carewill/validate/Cardinality" "ZERO_OR_MORE" "Lcarewill/validate/Cardinality;" (.ref a_ZERO_OR_MORE) := Sta.start ev_ZERO_OR_MORE (Or.inr ⟨(hw _ (List.mem_of_getElem? (i := 1) rfl)), (hw _ (List.mem_of_getElem? (i := 17) rfl))⟩)
  have E_ZERO_OR_MORE : Exa s s.heap a_ZERO_OR_MORE "carewill/validate/Cardinality" := Exa.start ev_ZERO_OR_MORE q7
  obtain ⟨a_NONE, ev_NONE⟩ := exa_v q10
  have S_NONE : Sta s s.heap "carewill/validate/Cardinality" "NONE" "Lcarewill/validate/Cardinality;" (.ref a_NONE) := Sta.start ev_NONE (Or.inr ⟨(hw _ (List.mem_of_getElem? (i := 1) rfl)), (hw _ (List.mem_of_getElem? (i := 19) rfl))⟩)
  have E_NONE : Exa s s.heap a_NONE "carewill/validate/Cardinality" := Exa.start ev_NONE q10
  have F_EXACTLY_ONE_min : Fld s s.heap a_EXACTLY_ONE "carewill/validate/Cardinality" "min" "I" (.int (1 : Int32)) := own_fld ev_EXACTLY_ONE q1
  have F_ZERO_OR_ONE_min : Fld s s.heap a_ZERO_OR_ONE "carewill/validate/Cardinality" "min" "I" (.int (0 : Int32)) := own_fld ev_ZERO_OR_ONE q3
  have F_ZERO_OR_ONE_max : Fld s s.heap a_ZERO_OR_ONE "carewill/validate/Cardinality" "max" "I" (.int (1 : Int32)) := own_fld ev_ZERO_OR_ONE q4
  have F_AT_LEAST_ONE_min : Fld s s.heap a_AT_LEAST_ONE "carewill/validate/Cardinality" "min" "I" (.int (1 : Int32)) := own_fld ev_AT_LEAST_ONE q6
  have F_ZERO_OR_MORE_min : Fld s s.heap a_ZERO_OR_MORE "carewill/validate/Cardinality" "min" "I" (.int (0 : Int32)) := own_fld ev_ZERO_OR_MORE q8
  have F_ZERO_OR_MORE_max : Fld s s.heap a_ZERO_OR_MORE "carewill/validate/Cardinality" "max" "I" (.int (2147483647 : Int32)) := own_fld ev_ZERO_OR_MORE q9
  have F_NONE_min : Fld s s.heap a_NONE "carewill/validate/Cardinality" "min" "I" (.int (0 : Int32)) := own_fld ev_NONE q11
  have F_NONE_max : Fld s s.heap a_NONE "carewill/validate/Cardinality" "max" "I" (.int (0 : Int32)) := own_fld ev_NONE q12
  have F_EXACTLY_ONE_max : Fld s s.heap a_EXACTLY_ONE "carewill/validate/Cardinality" "max" "I" (.int (1 : Int32)) := own_fld ev_EXACTLY_ONE q13
  have F_AT_LEAST_ONE_max : Fld s s.heap a_AT_LEAST_ONE "carewill/validate/Cardinality" "max" "I" (.int (2147483647 : Int32)) := own_fld ev_AT_LEAST_ONE r13
  obtain ⟨n, o, h1, h2, h3, v, L, rfl, ⟨hv, N⟩, hq⟩ := (k0 l s s.heap.size _ hw s.heap i0 a_EXACTLY_ONE S_EXACTLY_ONE E_EXACTLY_ONE F_EXACTLY_ONE_min F_EXACTLY_ONE_max a_ZERO_OR_ONE S_ZERO_OR_ONE E_ZERO_OR_ONE F_ZERO_OR_ONE_min F_ZERO_OR_ONE_max a_AT_LEAST_ONE S_AT_LEAST_ONE E_AT_LEAST_ONE F_AT_LEAST_ONE_min F_AT_LEAST_ONE_max a_ZERO_OR_MORE S_ZERO_OR_MORE E_ZERO_OR_MORE F_ZERO_OR_MORE_min F_ZERO_OR_MORE_max a_NONE S_NONE E_NONE F_NONE_min F_NONE_max) tables_1 p e ha hc hk s m _ below hf ((Spec.applies_iff_loose hf).mp happ).1 ⟨rfl, State.Warmed39.refl s, rfl⟩ trivial
  subst hv
  refine ⟨n, _, h1, h2, h3, hpost _ _ _ _ _ _ ⟨Cond.after_iff.mpr rfl, Cond.after_iff.mpr (eq_i res_at (Term.int_eval (1)) rfl), trivial⟩ ⟨hq.1, hq.2.1, (hq.2.2.sift fun y hy => Or.inr (N y hy)).mono (by decide) (by decide)⟩⟩
theorem main_1_1 : Claimed_1_1 := comes_1 fun _ _ _ _ _ _ h hF => ⟨h.1, hF⟩
theorem main_1_2 : Claimed_1_2 := comes_1 fun _ _ _ _ _ _ h hF => ⟨h.2.1, hF⟩
end Jvm.Pilot.@@N@@
namespace Jvm.Pilot.@@N@@
open Jvm Jvm.ClassFile Sem Op Lib Jvm.Free Jvm.Stand Jvm.Pilot.@@N@@.Jvm.D
/-! MADE BY PROGRAM (witnessworld.py) out of the Statement's table words and the real class files: 12 classes; the members and pool entries that the words name. The judged class is class 1, her method 1. -/
namespace start1
open Jvm.ClassFile
def u (s : String) : CpInfo := .utf8 (stringToUtf16 s)
/-- a pool by its gaps: so many unusable entries, then the entry; so many at the end -/
def gap : Nat → List CpInfo → List CpInfo
  | 0, r => r
  | n + 1, r => .unusable :: gap n r
def poolList (es : List (Nat × CpInfo)) (last : Nat) : List CpInfo := es.foldr (fun e r => gap e.1 (e.2 :: r)) (gap last [])
def pool (es : List (Nat × CpInfo)) (last : Nat) : Array CpInfo := ⟨poolList es last⟩
def fileOf (pool : Array CpInfo) (this : Nat) (attrs : Array Attribute := #[]) (ms : Array MethodInfo := #[]) (fl : Nat := 33) (sup : Nat := 0) (ifs : Array Nat := #[]) (fds : Array FieldInfo := #[]) : ClassFile where
  minorVersion := 0
  majorVersion := 65
  constantPool := pool
  accessFlags := fl
  thisClass := this
  superClass := sup
  interfaces := ifs
  fields := fds
  methods := ms
  attributes := attrs
def plain (name : String) (sup : Option ClassId) : Class where
  name := name
  kind := .ordinary
  loader := none
  accessFlags := 33
  super := sup
  interfaces := #[]
  cf := none
  fields := #[]
  methods := #[]
  instanceTypes := #[]
  staticTypes := #[]
  resolved := #[]
  callSites := []
  init := .initialized
  statics := none
  mirror := none

def pool0 : Array CpInfo := pool [(5, u "<init>"), (0, u "()V"), (1, .class_ 10), (1, u "java/lang/Object")] 113

def k0m0 : Method := { name := "<init>", desc := "()V", sig := { parameters := [], returnType := none }, accessFlags := 1, code := none }
/-- java/lang/Object -/
def k0 : Class := { plain "java/lang/Object" none with
  accessFlags := 33
  interfaces := #[]
  cf := some (fileOf pool0 8 #[] #[{ accessFlags := 1, nameIndex := 5, descriptorIndex := 6, attributes := #[] }] 33 0 #[] #[])
  fields := #[]
  methods := #[k0m0]
  instanceTypes := #[]
  staticTypes := #[]
  resolved := Array.replicate 124 none
  statics := none }

def pool1 : Array CpInfo := pool [(2, .class_ 4), (1, u "java/lang/Object"), (0, u "<init>"), (0, u "()V"), (0, .fieldref 8 9), (0, .class_ 10), (0, .nameAndType 11 12), (0, u "carewill/validate/Cardinality"), (0, u "EXACTLY_ONE"), (0, u "Lcarewill/validate/Cardinality;"), (0, .methodref 8 14), (0, .nameAndType 15 16), (0, u "allows"), (0, u "(I)Z"), (0, .fieldref 8 18), (0, .nameAndType 19 12), (0, u "ZERO_OR_ONE"), (0, .fieldref 8 21), (0, .nameAndType 22 12), (0, u "AT_LEAST_ONE"), (0, .fieldref 8 24), (0, .nameAndType 25 12), (0, u "ZERO_OR_MORE"), (0, .fieldref 8 27), (0, .nameAndType 28 12), (0, u "NONE"), (0, .class_ 30), (0, u "carewill/validate/CardinalityAllowsPinLaw"), (2, u "law")] 3

def k1m0 : Method := { name := "<init>", desc := "()V", sig := { parameters := [], returnType := none }, accessFlags := 1, code := none }
def k1c1 : Code := { maxStack := 3, maxLocals := 6, code := code, exceptionTable := #[], attributes := #[] }
def k1m1 : Method := { name := "law", desc := "(I)Z", sig := { parameters := [.int], returnType := some .boolean }, accessFlags := 9, code := some k1c1 }
/-- carewill/validate/CardinalityAllowsPinLaw -/
def k1 : Class := { plain "carewill/validate/CardinalityAllowsPinLaw" (some 0) with
  accessFlags := 49
  interfaces := #[]
  cf := some (fileOf pool1 29 #[] #[{ accessFlags := 1, nameIndex := 5, descriptorIndex := 6, attributes := #[] }, { accessFlags := 9, nameIndex := 33, descriptorIndex := 16, attributes := #[] }] 49 2 #[] #[])
  fields := #[]
  methods := #[k1m0, k1m1]
  instanceTypes := #[]
  staticTypes := #[]
  resolved := Array.replicate 37 none
  statics := none }

def pool2 : Array CpInfo := pool [(1, .class_ 2), (0, u "java/lang/constant/Constable"), (0, .class_ 4), (0, u "java/lang/Object")] 6

/-- java/lang/constant/Constable -/
def k2 : Class := { plain "java/lang/constant/Constable" (some 0) with
  accessFlags := 1537
  interfaces := #[]
  cf := some (fileOf pool2 1 #[] #[] 1537 3 #[] #[])
  fields := #[]
  methods := #[]
  instanceTypes := #[]
  staticTypes := #[]
  resolved := Array.replicate 11 none
  statics := none }

def pool3 : Array CpInfo := pool [(1, .class_ 2), (0, u "java/lang/Comparable"), (0, .class_ 4), (0, u "java/lang/Object")] 7

/-- java/lang/Comparable -/
def k3 : Class := { plain "java/lang/Comparable" (some 0) with
  accessFlags := 1537
  interfaces := #[]
  cf := some (fileOf pool3 1 #[] #[] 1537 3 #[] #[])
  fields := #[]
  methods := #[]
  instanceTypes := #[]
  staticTypes := #[]
  resolved := Array.replicate 12 none
  statics := none }

def pool4 : Array CpInfo := pool [(1, .class_ 2), (0, u "java/io/Serializable"), (0, .class_ 4), (0, u "java/lang/Object")] 2

/-- java/io/Serializable -/
def k4 : Class := { plain "java/io/Serializable" (some 0) with
  accessFlags := 1537
  interfaces := #[]
  cf := some (fileOf pool4 1 #[] #[] 1537 3 #[] #[])
  fields := #[]
  methods := #[]
  instanceTypes := #[]
  staticTypes := #[]
  resolved := Array.replicate 7 none
  statics := none }

def pool5 : Array CpInfo := pool [(2, .class_ 4), (1, u "java/lang/Enum"), (0, u "name"), (0, u "Ljava/lang/String;"), (2, u "ordinal"), (0, u "I"), (1, .class_ 14), (1, u "java/lang/Object"), (4, u "hash"), (86, .class_ 108), (1, u "java/lang/Enum$EnumDesc"), (2, .class_ 112), (0, u "java/lang/constant/Constable"), (0, .class_ 114), (0, u "java/lang/Comparable"), (0, .class_ 116), (0, u "java/io/Serializable")] 87

/-- java/lang/Enum -/
def k5 : Class := { plain "java/lang/Enum" (some 0) with
  accessFlags := 1057
  interfaces := #[2, 3, 4]
  cf := some (fileOf pool5 2 #[.nestMembers #[106]] #[] 1057 12 #[111, 113, 115] #[{ accessFlags := 18, nameIndex := 5, descriptorIndex := 6, attributes := #[] }, { accessFlags := 18, nameIndex := 9, descriptorIndex := 10, attributes := #[] }, { accessFlags := 2, nameIndex := 19, descriptorIndex := 10, attributes := #[] }])
  fields := #[{ name := "name", type := (.object "java/lang/String"), accessFlags := 18, slot := 0, constantValue := 0 }, { name := "ordinal", type := .int, accessFlags := 18, slot := 1, constantValue := 0 }, { name := "hash", type := .int, accessFlags := 2, slot := 2, constantValue := 0 }]
  methods := #[]
  instanceTypes := #[(.object "java/lang/String"), .int, .int]
  staticTypes := #[]
  resolved := Array.replicate 204 none
  statics := none }

def pool6 : Array CpInfo := pool [(1, .class_ 2), (0, u "carewill/validate/Cardinality"), (2, u "EXACTLY_ONE"), (0, u "Lcarewill/validate/Cardinality;"), (2, u "ZERO_OR_ONE"), (2, u "AT_LEAST_ONE"), (2, u "ZERO_OR_MORE"), (2, u "NONE"), (2, u "$VALUES"), (0, u "[Lcarewill/validate/Cardinality;"), (6, .class_ 31), (1, u "java/lang/Enum"), (8, u "words"), (0, u "Ljava/lang/String;"), (0, .fieldref 1 43), (0, .nameAndType 44 45), (0, u "min"), (0, u "I"), (0, .fieldref 1 47), (0, .nameAndType 48 45), (0, u "max"), (33, u "allows"), (0, u "(I)Z")] 6

def k6c0 : Code := { maxStack := 2, maxLocals := 2, code := prog_85_method_5_code, exceptionTable := #[], attributes := #[] }
def k6m0 : Method := { name := "allows", desc := "(I)Z", sig := { parameters := [.int], returnType := some .boolean }, accessFlags := 0, code := some k6c0 }
/-- carewill/validate/Cardinality -/
def k6 : Class := { plain "carewill/validate/Cardinality" (some 5) with
  accessFlags := 16432
  interfaces := #[]
  cf := some (fileOf pool6 1 #[] #[{ accessFlags := 0, nameIndex := 82, descriptorIndex := 83, attributes := #[] }] 16432 29 #[] #[{ accessFlags := 16409, nameIndex := 5, descriptorIndex := 6, attributes := #[] }, { accessFlags := 16409, nameIndex := 9, descriptorIndex := 6, attributes := #[] }, { accessFlags := 16409, nameIndex := 12, descriptorIndex := 6, attributes := #[] }, { accessFlags := 16409, nameIndex := 15, descriptorIndex := 6, attributes := #[] }, { accessFlags := 16409, nameIndex := 18, descriptorIndex := 6, attributes := #[] }, { accessFlags := 18, nameIndex := 40, descriptorIndex := 41, attributes := #[] }, { accessFlags := 18, nameIndex := 44, descriptorIndex := 45, attributes := #[] }, { accessFlags := 18, nameIndex := 48, descriptorIndex := 45, attributes := #[] }, { accessFlags := 4122, nameIndex := 21, descriptorIndex := 22, attributes := #[] }])
  fields := #[{ name := "EXACTLY_ONE", type := (.object "carewill/validate/Cardinality"), accessFlags := 16409, slot := 0, constantValue := 0 }, { name := "ZERO_OR_ONE", type := (.object "carewill/validate/Cardinality"), accessFlags := 16409, slot := 1, constantValue := 0 }, { name := "AT_LEAST_ONE", type := (.object "carewill/validate/Cardinality"), accessFlags := 16409, slot := 2, constantValue := 0 }, { name := "ZERO_OR_MORE", type := (.object "carewill/validate/Cardinality"), accessFlags := 16409, slot := 3, constantValue := 0 }, { name := "NONE", type := (.object "carewill/validate/Cardinality"), accessFlags := 16409, slot := 4, constantValue := 0 }, { name := "words", type := (.object "java/lang/String"), accessFlags := 18, slot := 3, constantValue := 0 }, { name := "min", type := .int, accessFlags := 18, slot := 4, constantValue := 0 }, { name := "max", type := .int, accessFlags := 18, slot := 5, constantValue := 0 }, { name := "$VALUES", type := (.array (.object "carewill/validate/Cardinality")), accessFlags := 4122, slot := 5, constantValue := 0 }]
  methods := #[k6m0]
  instanceTypes := #[(.object "java/lang/String"), .int, .int, (.object "java/lang/String"), .int, .int]
  staticTypes := #[(.object "carewill/validate/Cardinality"), (.object "carewill/validate/Cardinality"), (.object "carewill/validate/Cardinality"), (.object "carewill/validate/Cardinality"), (.object "carewill/validate/Cardinality"), (.array (.object "carewill/validate/Cardinality"))]
  resolved := Array.replicate 90 none
  statics := some 0 }

def pool7 : Array CpInfo := pool [(1, u "java/lang/Cloneable"), (0, .class_ 1), (0, u "java/lang/Object"), (0, .class_ 3)] 3

/-- java/lang/Cloneable -/
def k7 : Class := { plain "java/lang/Cloneable" (some 0) with
  accessFlags := 1537
  interfaces := #[]
  cf := some (fileOf pool7 2 #[] #[] 1537 4 #[] #[])
  fields := #[]
  methods := #[]
  instanceTypes := #[]
  staticTypes := #[]
  resolved := Array.replicate 8 none
  statics := none }

/-- the primitive byte -/
def k8 : Class := { plain "byte" none with kind := .primitive 'B', accessFlags := 0x411 }
/-- [B -/
def k9 : Class := { plain "[B" (some 0) with kind := .array 8 .byte, interfaces := #[7, 4], accessFlags := 1041 }

/-- the primitive int -/
def k10 : Class := { plain "int" none with kind := .primitive 'I', accessFlags := 0x411 }
/-- [I -/
def k11 : Class := { plain "[I" (some 0) with kind := .array 10 .int, interfaces := #[7, 4], accessFlags := 1041 }

def heap : Heap := #[{ cls := 6, slots := #[.ref 1, .ref 2, .ref 3, .ref 4, .ref 5, .null], vm := .statics 6 },
  { cls := 6, slots := #[.null, .int 0, .int 0, .null, .int 1, .int 1], vm := .none },
  { cls := 6, slots := #[.null, .int 1, .int 0, .null, .int 0, .int 1], vm := .none },
  { cls := 6, slots := #[.null, .int 2, .int 0, .null, .int 1, .int 2147483647], vm := .none },
  { cls := 6, slots := #[.null, .int 3, .int 0, .null, .int 0, .int 2147483647], vm := .none },
  { cls := 6, slots := #[.null, .int 4, .int 0, .null, .int 0, .int 0], vm := .none }]
def classes : Array Class := #[k0, k1, k2, k3, k4, k5, k6, k7, k8, k9, k10, k11]
def interned : List (Array UInt16 × Addr) := []
def slotsUsed : Nat := 36
def theMethod : MethodId := ⟨1, 1⟩
def args0 : Array Value := #[.int 1]
def aboutOver (below : List Frame) : State where
  vm := { classes := classes, interned := interned.toArray }
  heap := heap
  slotsUsed := slotsUsed
  threads := #[{ frames := .invoking theMethod args0 :: below }]
def below0 : List Frame := [.native { method := ⟨0, 0⟩, args := #[] }]
def about1 : State := aboutOver below0
def p0 : Program := .bare "" "" ""
def e0 : Env := launch0.env 0 0 0
theorem w_frames : about1.frames = Frame.invoking theMethod args0 :: below0 := rfl
set_option maxRecDepth 65536 in
theorem w_args : argsFit about1.vm theMethod args0 = true := by decide +kernel
set_option maxRecDepth 65536 in
theorem w_heap : heapFits about1 = true := by decide +kernel
set_option maxRecDepth 65536 in
theorem w_runnable : about1.curStatus? = some .runnable := by decide +kernel
set_option maxRecDepth 65536 in
theorem w_alone : about1.alone = true := by decide +kernel
set_option maxRecDepth 65536 in
theorem w_named : about1.methodNamed? x = some theMethod := by decide +kernel
set_option maxRecDepth 65536 in
theorem w_hears : about1.hears theMethod below0 = true := by decide +kernel
set_option maxRecDepth 65536 in
theorem w_ripe : about1.ripe theMethod args0 below0 = true := by decide +kernel
theorem w_running : about1.status = .running := rfl
set_option maxRecDepth 65536 in
theorem w_room : about1.hasRoom e0.platform room_1 = true :=
  launch0.hasRoom_least _ room_1 (by decide +kernel) (by decide +kernel) (by decide +kernel) (by decide +kernel) (by decide +kernel) (by decide +kernel)
theorem allAtoms_all (ts : List Jvm.Cond) (a : Array Jvm.Value) (st : Jvm.State) : (allAtoms ts).before a st = ts.all (fun c => c.before a st) := by
  induction ts with
  | nil => rfl
  | cons c t ih =>
    show (Jvm.Cond.and c (allAtoms t)).before a st = _
    rw [Jvm.Cond.before_and, ih, List.all_cons]
def words1 : List Jvm.Cond := Jvm.Cond.code x code maxLocals ret :: tables_1
/-- a 'code' word, met by the world's own term for the bytes: nothing is compared byte by byte -/
theorem code_word {y : MethodName} {bytes : ByteArray} {mx : Nat} {rt : Option FieldType} {a : Array Value} {s : State} {m : MethodId} {meth : Method} {c : Code} (h1 : s.methodNamed? y = some m) (h2 : s.vm.method? m = some meth) (h3 : meth.code = some c) (h4 : c.code = bytes)
    (h5 : (c.maxLocals == mx && c.exceptionTable.isEmpty && decide (c.maxStack ≤ mostOperands) && decide (meth.sig.returnType = rt) && !meth.locks && decide (parseMethodDescriptor y.desc = some meth.sig)) = true) : (Jvm.Cond.code y bytes mx rt).before a s = true := by
  simp only [Bool.and_eq_true, beq_iff_eq, Bool.not_eq_true', decide_eq_true_eq] at h5
  obtain ⟨⟨⟨⟨⟨g1, g2⟩, g3⟩, g4⟩, g5⟩, g6⟩ := h5
  simp [Cond.before, Cond.holds, Cond.value, h1, h2, h3, h4, g1, g2, g3, g4, g5, g6]
def isCode : Jvm.Cond → Bool
  | .code _ _ _ _ => true
  | _ => false
theorem all_split {L : List Jvm.Cond} {P : Jvm.Cond → Bool} (h1 : L.all (fun c => isCode c || P c) = true) (h2 : ∀ c ∈ L.filter isCode, P c = true) : L.all P = true := by
  refine List.all_eq_true.mpr fun c hc => ?_
  have h := List.all_eq_true.mp h1 c hc
  rcases Bool.eq_false_or_eq_true (isCode c) with hi | hi
  · exact h2 c (List.mem_filter.mpr ⟨hc, hi⟩)
  · simpa [hi] using h
set_option maxRecDepth 65536 in
theorem w_c0 : (Jvm.Cond.code x code maxLocals ret).before args0 about1 = true := code_word (m := ⟨1, 1⟩) (meth := k1m1) (c := k1c1) (by decide +kernel) rfl rfl rfl (by decide +kernel)
set_option maxRecDepth 65536 in
theorem w_c1 : (Jvm.Cond.code ({ cls := "carewill/validate/Cardinality", name := "allows", desc := "(I)Z" } : Jvm.MethodName) prog_85_method_5_code (2 : Nat) (Option.some Jvm.ClassFile.FieldType.boolean)).before args0 about1 = true := code_word (m := ⟨6, 0⟩) (meth := k6m0) (c := k6c0) (by decide +kernel) rfl rfl rfl (by decide +kernel)
def codes1 : List Jvm.Cond := [Jvm.Cond.code x code maxLocals ret, Jvm.Cond.code ({ cls := "carewill/validate/Cardinality", name := "allows", desc := "(I)Z" } : Jvm.MethodName) prog_85_method_5_code (2 : Nat) (Option.some Jvm.ClassFile.FieldType.boolean)]
set_option maxRecDepth 65536 in
theorem codes_eq : words1.filter isCode = codes1 := rfl
theorem w_codes : ∀ c ∈ words1.filter isCode, c.before args0 about1 = true := by
  rw [codes_eq]
  intro c hc
  simp only [codes1, List.mem_cons, List.not_mem_nil, or_false] at hc
  rcases hc with rfl | rfl
  · exact w_c0
  · exact w_c1
set_option maxRecDepth 65536 in
theorem w_t1 : words1.all (fun c => isCode c || c.before args0 about1) = true := by decide +kernel
theorem w_tables : (allAtoms (Jvm.Cond.code x code maxLocals ret :: tables_1)).before args0 about1 = true := by
  rw [allAtoms_all]
  show words1.all (fun c => c.before args0 about1) = true
  refine all_split ?_ w_codes
  rw [w_t1]
set_option maxRecDepth 65536 in
theorem w_case : (Jvm.Cond.and given_1 narrow_1).before args0 about1 = true := by decide +kernel
theorem w_applies : (headSpec (Jvm.Cond.code x code maxLocals ret :: tables_1) room_1).applies x e0.platform about1 = true :=
  (Spec.applies_iff w_frames).mpr ⟨w_running, w_runnable, w_alone, w_named, w_hears, w_ripe, w_room, w_tables⟩
theorem atStart : AtStart classFile x code maxLocals ret World_1 tables_1 room_1 Calls_1 rest_1 Pre_1 launch0 p0 e0 about1 theMethod args0 below0 :=
  ⟨lists_1, trivial, launch0.admits_env _ _ _, launch0.least_env, fairChoices_fair.cas, fairChoices_fair.clock, w_frames, w_args, w_heap, w_applies, trivial, trivial, w_case⟩
end start1
theorem witness_1 : WitnessClaimed_1 := ⟨start1.p0, start1.e0, start1.about1, start1.theMethod, start1.args0, start1.below0, start1.atStart⟩
end Jvm.Pilot.@@N@@
