import JvmDerived
import JvmDerived.Pilot.@@N@@Statement
import JvmDerived.Pilot.@@N@@Code
set_option linter.unusedVariables false
set_option linter.unusedSimpArgs false
namespace Jvm.Pilot.@@N@@
open Jvm Jvm.ClassFile Sem Op Lib Jvm.Free Jvm.Stand Jvm.LawKit Jvm.RoadKit Bundle Jvm.Pilot.@@N@@.Jvm.D
section Own
variable {p : Program} {l : Launch} {e : Env} {R : Room} {s : State} {m : MethodId} {args : Array Value} {below : List Frame} {meth : Method} {c : Code} {Z : State} {a0 : Array Value} {n0 : Nat} {Q : Option Value → Heap → Prop} {h : Heap} {cells slots pc pc' : Nat} {Ls Ls' : Array Slot} {st st' rest : List Value} {bs : ByteArray} {own : String} {mL : Nat} {T : State} {locs : List Loc}
/-- what is fixed along the walk of one body -/
def Amb (bs : ByteArray) (own : String) (mL : Nat) (Z : State) (p : Program) (s : State) (m : MethodId) (c : Code) : Prop := p.tables.exec = Jvm.exec ∧ c.code = bs ∧ Z.Warmed39 s.vm ∧ s.vm.findClass own = some m.cls ∧ c.maxLocals = mL
/-- from here the body comes to its return, and Q holds there -/
def Goes (p : Program) (l : Launch) (e : Env) (R : Room) (s : State) (m : MethodId) (args : Array Value) (below : List Frame) (meth : Method) (c : Code) (n0 : Nat) (Q : Option Value → Heap → Prop) (h : Heap) (cells slots pc : Nat) (Ls : Array Slot) (st : List Value) : Prop :=
  ∀ (T : State) (locs : List Loc), Stand p l e R s m args below meth c T locs cells slots → Fr n0 locs → T.heap = h →
    ∃ (s₂ : State) (v : Option Value) (L : List Loc), Steps p.tables e below (T.setTop (mkF m pc Ls st)) s₂ ∧ s₂.status = .running ∧ Ended s₂ below (.returned v) ∧ Q v s₂.heap ∧ Fr n0 L ∧ FrameEnd s (.returned v) s₂ L R.cells R.slots
theorem Goes.step (f : ∀ (T : State) (locs : List Loc), Stand p l e R s m args below meth c T locs cells slots → T.heap = h → ∀ target, Steps p.tables e below (T.setTop (mkF m pc' Ls' st')) target → Steps p.tables e below (T.setTop (mkF m pc Ls st)) target)
    (nx : Goes p l e R s m args below meth c n0 Q h cells slots pc' Ls' st') : Goes p l e R s m args below meth c n0 Q h cells slots pc Ls st := by
  intro T locs X N eT
  obtain ⟨s₂, v, L, h1, r⟩ := nx T locs X N eT
  exact ⟨s₂, v, L, f T locs X eT _ h1, r⟩
/-- a step by a law that hands out a new standing place, the heap as it was -/
theorem Goes.stay (f : ∀ (T : State) (locs : List Loc), Stand p l e R s m args below meth c T locs cells slots → T.heap = h → ∃ T', Stand p l e R s m args below meth c T' locs cells slots ∧ T'.heap = h ∧ ∀ target, Steps p.tables e below (T'.setTop (mkF m pc' Ls' st')) target → Steps p.tables e below (T.setTop (mkF m pc Ls st)) target)
    (nx : Goes p l e R s m args below meth c n0 Q h cells slots pc' Ls' st') : Goes p l e R s m args below meth c n0 Q h cells slots pc Ls st := by
  intro T locs X N eT
  obtain ⟨T', X', eT', k⟩ := f T locs X eT
  obtain ⟨s₂, v, L, h1, r⟩ := nx T' locs X' N eT'
  exact ⟨s₂, v, L, k _ h1, r⟩
theorem own_dupX2 {tb : Tables} [Ours tb] {target : State} {g : JFrame} (hA : At T m c below) (hx : tb.exec = Jvm.exec) (hg : g.method = m) {x y z : Value} (hd : decode c.code g.pc = .ok (.dup_x2, 1)) (hs : g.stack = x :: y :: z :: rest) (hc : x.category = 1) (hc1 : y.category = 1) (hc2 : z.category = 1)
    (hr : Steps tb e below (T.setTop { g with pc := g.pc + 1, stack := x :: y :: z :: x :: rest }) target) : Steps tb e below (T.setTop g) target := by
  subst hg
  jvm_step hA [hA.top, hx, hd, hs, dup_x2.wp_sem, hc, hc1, hc2]
  exact hr
/-- one plain step: its length, the locals, the stack -/
def sim1 (i : Instr) (Ls : Array Slot) (st : List Value) : Option (Nat × Array Slot × List Value) :=
  match i with
  | .iload_n k => match Ls[k.val]? with | some (.val (.int v)) => some (1, Ls, .int v :: st) | _ => none
  | .iload k => match Ls[k]? with | some (.val (.int v)) => some (2, Ls, .int v :: st) | _ => none
  | .aload_n k => match Ls[k.val]? with | some (.val v) => if v.isRef = true then some (1, Ls, v :: st) else none | _ => none
  | .aload k => match Ls[k]? with | some (.val v) => if v.isRef = true then some (2, Ls, v :: st) else none | _ => none
  | .lload_n k => match Ls[k.val]? with | some (.val (.long v)) => some (1, Ls, .long v :: st) | _ => none
  | .lload k => match Ls[k]? with | some (.val (.long v)) => some (2, Ls, .long v :: st) | _ => none
  | .istore_n k => match st with | .int v :: r => (match storeLocals Ls k.val (.int v) with | some L => some (1, L, r) | none => none) | _ => none
  | .istore k => match st with | .int v :: r => (match storeLocals Ls k (.int v) with | some L => some (2, L, r) | none => none) | _ => none
  | .astore_n k => match st with | v :: r => if v.isRef = true then (match storeLocals Ls k.val v with | some L => some (1, L, r) | none => none) else none | _ => none
  | .astore k => match st with | v :: r => if v.isRef = true then (match storeLocals Ls k v with | some L => some (2, L, r) | none => none) else none | _ => none
  | .lstore_n k => match st with | .long v :: r => (match storeLocals Ls k.val (.long v) with | some L => some (1, L, r) | none => none) | _ => none
  | .lstore k => match st with | .long v :: r => (match storeLocals Ls k (.long v) with | some L => some (2, L, r) | none => none) | _ => none
  | .iconst i => some (1, Ls, .int (Int32.ofInt i) :: st)
  | .bipush i => some (2, Ls, .int (Int8.ofInt i).toInt32 :: st)
  | .sipush i => some (3, Ls, .int (Int16.ofInt i).toInt32 :: st)
  | .aconst_null => some (1, Ls, .null :: st)
  | .lconst k => some (1, Ls, .long (Int64.ofNat k.val) :: st)
  | .iadd => match st with | .int y :: .int x :: r => some (1, Ls, .int (x + y) :: r) | _ => none
  | .isub => match st with | .int y :: .int x :: r => some (1, Ls, .int (x - y) :: r) | _ => none
  | .iand => match st with | .int y :: .int x :: r => some (1, Ls, .int (x &&& y) :: r) | _ => none
  | .imul => match st with | .int y :: .int x :: r => some (1, Ls, .int (x * y) :: r) | _ => none
  | .ixor => match st with | .int y :: .int x :: r => some (1, Ls, .int (x ^^^ y) :: r) | _ => none
  | .ior => match st with | .int y :: .int x :: r => some (1, Ls, .int (x ||| y) :: r) | _ => none
  | .ishl => match st with | .int y :: .int x :: r => some (1, Ls, .int (x <<< (y &&& 31)) :: r) | _ => none
  | .ishr => match st with | .int y :: .int x :: r => some (1, Ls, .int (x >>> (y &&& 31)) :: r) | _ => none
  | .iushr => match st with | .int y :: .int x :: r => some (1, Ls, .int (XT.ushr x y) :: r) | _ => none
  | .ladd => match st with | .long y :: .long x :: r => some (1, Ls, .long (x + y) :: r) | _ => none
  | .lsub => match st with | .long y :: .long x :: r => some (1, Ls, .long (x - y) :: r) | _ => none
  | .land => match st with | .long y :: .long x :: r => some (1, Ls, .long (x &&& y) :: r) | _ => none
  | .lor => match st with | .long y :: .long x :: r => some (1, Ls, .long (x ||| y) :: r) | _ => none
  | .lxor => match st with | .long y :: .long x :: r => some (1, Ls, .long (x ^^^ y) :: r) | _ => none
  | .lshl => match st with | .int y :: .long x :: r => some (1, Ls, .long (x <<< (y.toInt64 &&& 63)) :: r) | _ => none
  | .lushr => match st with | .int y :: .long x :: r => some (1, Ls, .long (XT.ushrL x y) :: r) | _ => none
  | .lcmp => match st with | .long y :: .long x :: r => some (1, Ls, .int (XT.cmpL x y) :: r) | _ => none
  | .ineg => match st with | .int x :: r => some (1, Ls, .int (-x) :: r) | _ => none
  | .i2b => match st with | .int x :: r => some (1, Ls, .int x.toInt8.toInt32 :: r) | _ => none
  | .i2c => match st with | .int x :: r => some (1, Ls, .int x.toUInt32.toUInt16.toUInt32.toInt32 :: r) | _ => none
  | .i2l => match st with | .int x :: r => some (1, Ls, .long x.toInt64 :: r) | _ => none
  | .l2i => match st with | .long x :: r => some (1, Ls, .int x.toInt32 :: r) | _ => none
  | .lneg => match st with | .long x :: r => some (1, Ls, .long (-x) :: r) | _ => none
  | .dup => match st with | x :: r => if x.category = 1 then some (1, Ls, x :: x :: r) else none | _ => none
  | .pop => match st with | x :: r => if x.category = 1 then some (1, Ls, r) else none | _ => none
  | .dup_x1 => match st with | x :: y :: r => if x.category = 1 ∧ y.category = 1 then some (1, Ls, x :: y :: x :: r) else none | _ => none
  | .dup2 => match st with | x :: y :: r => if x.category = 1 ∧ y.category = 1 then some (1, Ls, x :: y :: x :: y :: r) else none | _ => none
  | .iinc k i => match Ls[k]? with | some (.val (.int x)) => (match storeLocals Ls k (.int (x + Int32.ofInt i)) with | some L => some (3, L, st) | none => none) | _ => none
  | .dup_x2 => match st with | x :: y :: z :: r => if x.category = 1 ∧ y.category = 1 ∧ z.category = 1 then some (1, Ls, x :: y :: z :: x :: r) else none | _ => none
  | _ => none
theorem sim1_ok (X : Stand p l e R s m args below meth c T locs cells slots) (hx : p.tables.exec = Jvm.exec) {i : Instr} {n : Nat} (hd : decode c.code pc = .ok (i, n)) (hs : sim1 i Ls st = some (n, Ls', st')) {target : State}
    (hr : Steps p.tables e below (T.setTop (mkF m (pc + n) Ls' st')) target) : Steps p.tables e below (T.setTop (mkF m pc Ls st)) target := by
  cases i
  case iload_n k =>
    simp only [sim1] at hs
    split at hs
    · rename_i v hv
      simp only [Option.some.injEq, Prod.mk.injEq] at hs
      obtain ⟨rfl, rfl, rfl⟩ := hs
      exact XS.iloadN X.here hx rfl hd hv hr
    · cases hs
  case iload k =>
    simp only [sim1] at hs
    split at hs
    · rename_i v hv
      simp only [Option.some.injEq, Prod.mk.injEq] at hs
      obtain ⟨rfl, rfl, rfl⟩ := hs
      exact XS.iload X.here hx rfl hd hv hr
    · cases hs
  case aload_n k =>
    simp only [sim1] at hs
    split at hs
    · rename_i v hv
      split at hs
      · rename_i hr2
        simp only [Option.some.injEq, Prod.mk.injEq] at hs
        obtain ⟨rfl, rfl, rfl⟩ := hs
        exact XS.aloadN X.here hx rfl hd hv hr2 hr
      · cases hs
    · cases hs
  case aload k =>
    simp only [sim1] at hs
    split at hs
    · rename_i v hv
      split at hs
      · rename_i hr2
        simp only [Option.some.injEq, Prod.mk.injEq] at hs
        obtain ⟨rfl, rfl, rfl⟩ := hs
        exact XS.aload X.here hx rfl hd hv hr2 hr
      · cases hs
    · cases hs
  case lload_n k =>
    simp only [sim1] at hs
    split at hs
    · rename_i v hv
      simp only [Option.some.injEq, Prod.mk.injEq] at hs
      obtain ⟨rfl, rfl, rfl⟩ := hs
      exact XT.lloadN X.here hx rfl hd hv hr
    · cases hs
  case lload k =>
    simp only [sim1] at hs
    split at hs
    · rename_i v hv
      simp only [Option.some.injEq, Prod.mk.injEq] at hs
      obtain ⟨rfl, rfl, rfl⟩ := hs
      exact XT.lload X.here hx rfl hd hv hr
    · cases hs
  case istore_n k =>
    simp only [sim1] at hs
    split at hs
    · rename_i v r
      split at hs
      · rename_i L hL
        simp only [Option.some.injEq, Prod.mk.injEq] at hs
        obtain ⟨rfl, rfl, rfl⟩ := hs
        exact XS.istoreN X.here hx rfl hd rfl hL hr
      · cases hs
    · cases hs
  case istore k =>
    simp only [sim1] at hs
    split at hs
    · rename_i v r
      split at hs
      · rename_i L hL
        simp only [Option.some.injEq, Prod.mk.injEq] at hs
        obtain ⟨rfl, rfl, rfl⟩ := hs
        exact XS.istore X.here hx rfl hd rfl hL hr
      · cases hs
    · cases hs
  case astore_n k =>
    simp only [sim1] at hs
    split at hs
    · rename_i v r
      split at hs
      · rename_i hr2
        split at hs
        · rename_i L hL
          simp only [Option.some.injEq, Prod.mk.injEq] at hs
          obtain ⟨rfl, rfl, rfl⟩ := hs
          exact XS.astoreN X.here hx rfl hd rfl hr2 hL hr
        · cases hs
      · cases hs
    · cases hs
  case astore k =>
    simp only [sim1] at hs
    split at hs
    · rename_i v r
      split at hs
      · rename_i hr2
        split at hs
        · rename_i L hL
          simp only [Option.some.injEq, Prod.mk.injEq] at hs
          obtain ⟨rfl, rfl, rfl⟩ := hs
          exact XS.astore X.here hx rfl hd rfl hr2 hL hr
        · cases hs
      · cases hs
    · cases hs
  case lstore_n k =>
    simp only [sim1] at hs
    split at hs
    · rename_i v r
      split at hs
      · rename_i L hL
        simp only [Option.some.injEq, Prod.mk.injEq] at hs
        obtain ⟨rfl, rfl, rfl⟩ := hs
        exact XT.lstoreN X.here hx rfl hd rfl hL hr
      · cases hs
    · cases hs
  case lstore k =>
    simp only [sim1] at hs
    split at hs
    · rename_i v r
      split at hs
      · rename_i L hL
        simp only [Option.some.injEq, Prod.mk.injEq] at hs
        obtain ⟨rfl, rfl, rfl⟩ := hs
        exact XT.lstore X.here hx rfl hd rfl hL hr
      · cases hs
    · cases hs
  case iconst i =>
    simp only [sim1, Option.some.injEq, Prod.mk.injEq] at hs
    obtain ⟨rfl, rfl, rfl⟩ := hs
    exact XS.iconst X.here hx rfl hd hr
  case bipush i =>
    simp only [sim1, Option.some.injEq, Prod.mk.injEq] at hs
    obtain ⟨rfl, rfl, rfl⟩ := hs
    exact XS.bipush X.here hx rfl hd hr
  case sipush i =>
    simp only [sim1, Option.some.injEq, Prod.mk.injEq] at hs
    obtain ⟨rfl, rfl, rfl⟩ := hs
    exact XS.sipush X.here hx rfl hd hr
  case aconst_null =>
    simp only [sim1, Option.some.injEq, Prod.mk.injEq] at hs
    obtain ⟨rfl, rfl, rfl⟩ := hs
    exact XS.aconstNull X.here hx rfl hd hr
  case lconst k =>
    simp only [sim1, Option.some.injEq, Prod.mk.injEq] at hs
    obtain ⟨rfl, rfl, rfl⟩ := hs
    exact XT.lconst X.here hx rfl hd hr
  case iadd =>
    simp only [sim1] at hs
    split at hs
    · rename_i y x r
      simp only [Option.some.injEq, Prod.mk.injEq] at hs
      obtain ⟨rfl, rfl, rfl⟩ := hs
      exact XS.iadd X.here hx rfl hd rfl hr
    · cases hs
  case isub =>
    simp only [sim1] at hs
    split at hs
    · rename_i y x r
      simp only [Option.some.injEq, Prod.mk.injEq] at hs
      obtain ⟨rfl, rfl, rfl⟩ := hs
      exact XS.isub X.here hx rfl hd rfl hr
    · cases hs
  case iand =>
    simp only [sim1] at hs
    split at hs
    · rename_i y x r
      simp only [Option.some.injEq, Prod.mk.injEq] at hs
      obtain ⟨rfl, rfl, rfl⟩ := hs
      exact XS.iand X.here hx rfl hd rfl hr
    · cases hs
  case imul =>
    simp only [sim1] at hs
    split at hs
    · rename_i y x r
      simp only [Option.some.injEq, Prod.mk.injEq] at hs
      obtain ⟨rfl, rfl, rfl⟩ := hs
      exact XS.imul X.here hx rfl hd rfl hr
    · cases hs
  case ixor =>
    simp only [sim1] at hs
    split at hs
    · rename_i y x r
      simp only [Option.some.injEq, Prod.mk.injEq] at hs
      obtain ⟨rfl, rfl, rfl⟩ := hs
      exact XT.ixor X.here hx rfl hd rfl hr
    · cases hs
  case ior =>
    simp only [sim1] at hs
    split at hs
    · rename_i y x r
      simp only [Option.some.injEq, Prod.mk.injEq] at hs
      obtain ⟨rfl, rfl, rfl⟩ := hs
      exact XT.ior X.here hx rfl hd rfl hr
    · cases hs
  case ishl =>
    simp only [sim1] at hs
    split at hs
    · rename_i y x r
      simp only [Option.some.injEq, Prod.mk.injEq] at hs
      obtain ⟨rfl, rfl, rfl⟩ := hs
      exact XT.ishl X.here hx rfl hd rfl hr
    · cases hs
  case ishr =>
    simp only [sim1] at hs
    split at hs
    · rename_i y x r
      simp only [Option.some.injEq, Prod.mk.injEq] at hs
      obtain ⟨rfl, rfl, rfl⟩ := hs
      exact XT.ishr X.here hx rfl hd rfl hr
    · cases hs
  case iushr =>
    simp only [sim1] at hs
    split at hs
    · rename_i y x r
      simp only [Option.some.injEq, Prod.mk.injEq] at hs
      obtain ⟨rfl, rfl, rfl⟩ := hs
      exact XT.iushr X.here hx rfl hd rfl hr
    · cases hs
  case ladd =>
    simp only [sim1] at hs
    split at hs
    · rename_i y x r
      simp only [Option.some.injEq, Prod.mk.injEq] at hs
      obtain ⟨rfl, rfl, rfl⟩ := hs
      exact XT.ladd X.here hx rfl hd rfl hr
    · cases hs
  case lsub =>
    simp only [sim1] at hs
    split at hs
    · rename_i y x r
      simp only [Option.some.injEq, Prod.mk.injEq] at hs
      obtain ⟨rfl, rfl, rfl⟩ := hs
      exact XT.lsub X.here hx rfl hd rfl hr
    · cases hs
  case land =>
    simp only [sim1] at hs
    split at hs
    · rename_i y x r
      simp only [Option.some.injEq, Prod.mk.injEq] at hs
      obtain ⟨rfl, rfl, rfl⟩ := hs
      exact XT.land X.here hx rfl hd rfl hr
    · cases hs
  case lor =>
    simp only [sim1] at hs
    split at hs
    · rename_i y x r
      simp only [Option.some.injEq, Prod.mk.injEq] at hs
      obtain ⟨rfl, rfl, rfl⟩ := hs
      exact XT.lor X.here hx rfl hd rfl hr
    · cases hs
  case lxor =>
    simp only [sim1] at hs
    split at hs
    · rename_i y x r
      simp only [Option.some.injEq, Prod.mk.injEq] at hs
      obtain ⟨rfl, rfl, rfl⟩ := hs
      exact XT.lxor X.here hx rfl hd rfl hr
    · cases hs
  case lshl =>
    simp only [sim1] at hs
    split at hs
    · rename_i y x r
      simp only [Option.some.injEq, Prod.mk.injEq] at hs
      obtain ⟨rfl, rfl, rfl⟩ := hs
      exact XT.lshl X.here hx rfl hd rfl hr
    · cases hs
  case lushr =>
    simp only [sim1] at hs
    split at hs
    · rename_i y x r
      simp only [Option.some.injEq, Prod.mk.injEq] at hs
      obtain ⟨rfl, rfl, rfl⟩ := hs
      exact XT.lushr X.here hx rfl hd rfl hr
    · cases hs
  case lcmp =>
    simp only [sim1] at hs
    split at hs
    · rename_i y x r
      simp only [Option.some.injEq, Prod.mk.injEq] at hs
      obtain ⟨rfl, rfl, rfl⟩ := hs
      exact XT.lcmp X.here hx rfl hd rfl hr
    · cases hs
  case ineg =>
    simp only [sim1] at hs
    split at hs
    · rename_i x r
      simp only [Option.some.injEq, Prod.mk.injEq] at hs
      obtain ⟨rfl, rfl, rfl⟩ := hs
      exact XS.ineg X.here hx rfl hd rfl hr
    · cases hs
  case i2b =>
    simp only [sim1] at hs
    split at hs
    · rename_i x r
      simp only [Option.some.injEq, Prod.mk.injEq] at hs
      obtain ⟨rfl, rfl, rfl⟩ := hs
      exact XT.i2b X.here hx rfl hd rfl hr
    · cases hs
  case i2c =>
    simp only [sim1] at hs
    split at hs
    · rename_i x r
      simp only [Option.some.injEq, Prod.mk.injEq] at hs
      obtain ⟨rfl, rfl, rfl⟩ := hs
      exact XT.i2c X.here hx rfl hd rfl hr
    · cases hs
  case i2l =>
    simp only [sim1] at hs
    split at hs
    · rename_i x r
      simp only [Option.some.injEq, Prod.mk.injEq] at hs
      obtain ⟨rfl, rfl, rfl⟩ := hs
      exact XT.i2l X.here hx rfl hd rfl hr
    · cases hs
  case l2i =>
    simp only [sim1] at hs
    split at hs
    · rename_i x r
      simp only [Option.some.injEq, Prod.mk.injEq] at hs
      obtain ⟨rfl, rfl, rfl⟩ := hs
      exact XT.l2i X.here hx rfl hd rfl hr
    · cases hs
  case lneg =>
    simp only [sim1] at hs
    split at hs
    · rename_i x r
      simp only [Option.some.injEq, Prod.mk.injEq] at hs
      obtain ⟨rfl, rfl, rfl⟩ := hs
      exact XT.lneg X.here hx rfl hd rfl hr
    · cases hs
  case dup =>
    simp only [sim1] at hs
    split at hs
    · rename_i x r
      split at hs
      · rename_i hr2
        simp only [Option.some.injEq, Prod.mk.injEq] at hs
        obtain ⟨rfl, rfl, rfl⟩ := hs
        exact XS.dup X.here hx rfl hd rfl hr2 hr
      · cases hs
    · cases hs
  case pop =>
    simp only [sim1] at hs
    split at hs
    · rename_i x r
      split at hs
      · rename_i hr2
        simp only [Option.some.injEq, Prod.mk.injEq] at hs
        obtain ⟨rfl, rfl, rfl⟩ := hs
        exact XT.pop X.here hx rfl hd rfl hr2 hr
      · cases hs
    · cases hs
  case dup_x1 =>
    simp only [sim1] at hs
    split at hs
    · rename_i x y r
      split at hs
      · rename_i hr2
        simp only [Option.some.injEq, Prod.mk.injEq] at hs
        obtain ⟨rfl, rfl, rfl⟩ := hs
        exact XT.dupX1 X.here hx rfl hd rfl hr2.1 hr2.2 hr
      · cases hs
    · cases hs
  case dup2 =>
    simp only [sim1] at hs
    split at hs
    · rename_i x y r
      split at hs
      · rename_i hr2
        simp only [Option.some.injEq, Prod.mk.injEq] at hs
        obtain ⟨rfl, rfl, rfl⟩ := hs
        exact XT.dup2 X.here hx rfl hd rfl hr2.1 hr2.2 hr
      · cases hs
    · cases hs
  case iinc k i =>
    simp only [sim1] at hs
    split at hs
    · rename_i x hv
      split at hs
      · rename_i L hL
        simp only [Option.some.injEq, Prod.mk.injEq] at hs
        obtain ⟨rfl, rfl, rfl⟩ := hs
        exact XS.iinc X.here hx rfl hd hv hL hr
      · cases hs
    · cases hs
  case dup_x2 =>
    simp only [sim1] at hs
    split at hs
    · rename_i x y z r
      split at hs
      · rename_i hr2
        simp only [Option.some.injEq, Prod.mk.injEq] at hs
        obtain ⟨rfl, rfl, rfl⟩ := hs
        exact own_dupX2 X.here hx rfl hd rfl hr2.1 hr2.2.1 hr2.2.2 hr
      · cases hs
    · cases hs
  all_goals (simp only [sim1, reduceCtorEq] at hs)
def simL : List (Instr × Nat) → Nat → Array Slot → List Value → Option (Nat × Array Slot × List Value)
  | [], pc, Ls, st => some (pc, Ls, st)
  | q :: r, pc, Ls, st => match sim1 q.1 Ls st with
    | some (n, L, t) => if n = q.2 then simL r (pc + n) L t else none
    | none => none
def decL (bs : ByteArray) : List (Instr × Nat) → Nat → Bool
  | [], _ => true
  | q :: r, pc => decide (decode bs pc = .ok q) && decL bs r (pc + q.2)
theorem simL_ok (X : Stand p l e R s m args below meth c T locs cells slots) (hx : p.tables.exec = Jvm.exec) {target : State} : ∀ (is : List (Instr × Nat)) (pc : Nat) (Ls : Array Slot) (st : List Value), decL c.code is pc = true → simL is pc Ls st = some (pc', Ls', st') → Steps p.tables e below (T.setTop (mkF m pc' Ls' st')) target → Steps p.tables e below (T.setTop (mkF m pc Ls st)) target
  | [], pc, Ls, st, _, h2, h3 => by
    simp only [simL, Option.some.injEq, Prod.mk.injEq] at h2
    obtain ⟨rfl, rfl, rfl⟩ := h2
    exact h3
  | q :: r, pc, Ls, st, h1, h2, h3 => by
    simp only [decL, Bool.and_eq_true, decide_eq_true_eq] at h1
    simp only [simL] at h2
    split at h2
    · rename_i n L t hs
      split at h2
      · rename_i hn
        subst hn
        exact sim1_ok X hx h1.1 hs (simL_ok X hx r _ L t h1.2 h2 h3)
      · cases h2
    · cases h2
theorem Goes.blk (A : Amb bs own mL Z p s m c) (is : List (Instr × Nat)) (h1 : decL bs is pc = true) (h2 : simL is pc Ls st = some (pc', Ls', st')) (nx : Goes p l e R s m args below meth c n0 Q h cells slots pc' Ls' st') : Goes p l e R s m args below meth c n0 Q h cells slots pc Ls st :=
  Goes.step (fun T locs X _ target k => simL_ok X A.1 is pc Ls st (by rw [A.2.1]; exact h1) h2 k) nx
theorem Goes.jump (A : Amb bs own mL Z p s m c) {o : Int} (hd : decode bs pc = .ok (.goto o, 3)) (ho : 0 ≤ (pc : Int) + o) (hp : ((pc : Int) + o).toNat = pc') (nx : Goes p l e R s m args below meth c n0 Q h cells slots pc' Ls st) : Goes p l e R s m args below meth c n0 Q h cells slots pc Ls st :=
  Goes.step (fun T locs X _ target k => XS.goto X.here A.1 rfl rfl (hb A.2.1 hd) ho hp k) nx
/-- what a comparison says, in the whole numbers -/
def cP : ClassFile.Cond → Int32 → Int32 → Prop
  | .eq, x, y => x = y
  | .ne, x, y => ¬ x = y
  | .lt, x, y => x.toInt < y.toInt
  | .ge, x, y => y.toInt ≤ x.toInt
  | .gt, x, y => y.toInt < x.toInt
  | .le, x, y => x.toInt ≤ y.toInt
theorem cP_iff (cd : ClassFile.Cond) (x y : Int32) : if_icmp.holds cd x y = true ↔ cP cd x y := by
  cases cd <;> simp [if_icmp.holds, cP, Int32.lt_iff_toInt_lt, Int32.le_iff_toInt_le]
theorem cP_not {cd : ClassFile.Cond} {x y : Int32} (hn : ¬ cP cd x y) : if_icmp.holds cd x y = false := by
  rw [← cP_iff] at hn; simpa using hn
theorem cP_f {cd : ClassFile.Cond} {x y : Int32} (q : if_icmp.holds cd x y = false) : ¬ cP cd x y := fun hc => by rw [(cP_iff cd x y).mpr hc] at q; cases q
theorem cP_t {cd : ClassFile.Cond} {x y : Int32} (q : if_icmp.holds cd x y = true) : cP cd x y := (cP_iff cd x y).mp q
def cI : ClassFile.Cond → Int → Int → Prop
  | .eq, x, y => x = y
  | .ne, x, y => ¬ x = y
  | .lt, x, y => x < y
  | .ge, x, y => y ≤ x
  | .gt, x, y => y < x
  | .le, x, y => x ≤ y
theorem cP_int {cd : ClassFile.Cond} {x y : Int32} (q : cP cd x y) : cI cd x.toInt y.toInt := by
  cases cd <;> simp only [cP, cI] at q ⊢ <;> first | exact q | exact Int32.toInt_inj.mpr q | exact fun z => q (Int32.toInt_inj.mp z)
theorem cP_nint {cd : ClassFile.Cond} {x y : Int32} (q : ¬ cP cd x y) : ¬ cI cd x.toInt y.toInt := by
  cases cd <;> simp only [cP, cI] at q ⊢ <;> first | exact q | exact fun z => q (Int32.toInt_inj.mp z) | exact fun z => q fun w => z (Int32.toInt_inj.mpr w)
theorem Goes.if1 (A : Amb bs own mL Z p s m c) {cd : ClassFile.Cond} {o : Int} {x : Int32} (hd : decode bs pc = .ok (.ifCond cd o, 3)) (ho : 0 ≤ (pc : Int) + o) (hp : ((pc : Int) + o).toNat = pc') (ny : cP cd x 0 → Goes p l e R s m args below meth c n0 Q h cells slots pc' Ls st) (nn : ¬ cP cd x 0 → Goes p l e R s m args below meth c n0 Q h cells slots (pc + 3) Ls st) : Goes p l e R s m args below meth c n0 Q h cells slots pc Ls (.int x :: st) := by
  by_cases q : cP cd x 0
  · exact Goes.step (fun T locs X _ target k => XS.ifYes X.here A.1 rfl rfl (hb A.2.1 hd) rfl ((if0 _ _).trans ((cP_iff _ _ _).mpr q)) ho hp k) (ny q)
  · exact Goes.step (fun T locs X _ target k => XS.ifNo X.here A.1 rfl (hb A.2.1 hd) rfl ((if0 _ _).trans (cP_not q)) k) (nn q)
theorem Goes.if2 (A : Amb bs own mL Z p s m c) {cd : ClassFile.Cond} {o : Int} {x y : Int32} (hd : decode bs pc = .ok (.if_icmp cd o, 3)) (ho : 0 ≤ (pc : Int) + o) (hp : ((pc : Int) + o).toNat = pc') (ny : cP cd x y → Goes p l e R s m args below meth c n0 Q h cells slots pc' Ls st) (nn : ¬ cP cd x y → Goes p l e R s m args below meth c n0 Q h cells slots (pc + 3) Ls st) : Goes p l e R s m args below meth c n0 Q h cells slots pc Ls (.int y :: .int x :: st) := by
  by_cases q : cP cd x y
  · exact Goes.step (fun T locs X _ target k => XS.icmpYes X.here A.1 rfl rfl (hb A.2.1 hd) rfl ((cP_iff _ _ _).mpr q) ho hp k) (ny q)
  · exact Goes.step (fun T locs X _ target k => XS.icmpNo X.here A.1 rfl (hb A.2.1 hd) rfl (cP_not q) k) (nn q)
def aP : ClassFile.ACond → Value → Value → Prop
  | .eq, x, y => x = y
  | .ne, x, y => ¬ x = y
theorem Goes.ifA (A : Amb bs own mL Z p s m c) {cd : ClassFile.ACond} {o : Int} {x y : Value} (hd : decode bs pc = .ok (.if_acmp cd o, 3)) (hx1 : x.isRef = true) (hy1 : y.isRef = true) (ho : 0 ≤ (pc : Int) + o) (hp : ((pc : Int) + o).toNat = pc') (ny : aP cd x y → Goes p l e R s m args below meth c n0 Q h cells slots pc' Ls st) (nn : ¬ aP cd x y → Goes p l e R s m args below meth c n0 Q h cells slots (pc + 3) Ls st) : Goes p l e R s m args below meth c n0 Q h cells slots pc Ls (y :: x :: st) := by
  by_cases q : aP cd x y
  · exact Goes.step (fun T locs X _ target k => XT.acmpYes X.here A.1 rfl rfl (hb A.2.1 hd) rfl hx1 hy1 (by cases cd <;> simpa [XT.acmp, aP] using q) ho hp k) (ny q)
  · exact Goes.step (fun T locs X _ target k => XT.acmpNo X.here A.1 rfl (hb A.2.1 hd) rfl hx1 hy1 (by cases cd <;> simpa [XT.acmp, aP] using q) k) (nn q)
theorem Goes.ifNullY (A : Amb bs own mL Z p s m c) {o : Int} (hd : decode bs pc = .ok (.ifnull o, 3)) (ho : 0 ≤ (pc : Int) + o) (hp : ((pc : Int) + o).toNat = pc') (nx : Goes p l e R s m args below meth c n0 Q h cells slots pc' Ls st) : Goes p l e R s m args below meth c n0 Q h cells slots pc Ls (.null :: st) :=
  Goes.step (fun T locs X _ target k => XS.ifnullYes X.here A.1 rfl rfl (hb A.2.1 hd) rfl ho hp k) nx
theorem Goes.ifNullN (A : Amb bs own mL Z p s m c) {o : Int} {b : Addr} (hd : decode bs pc = .ok (.ifnull o, 3)) (nx : Goes p l e R s m args below meth c n0 Q h cells slots (pc + 3) Ls st) : Goes p l e R s m args below meth c n0 Q h cells slots pc Ls (.ref b :: st) :=
  Goes.step (fun T locs X _ target k => XS.ifnullNo X.here A.1 rfl (hb A.2.1 hd) rfl k) nx
theorem Goes.ifNonN (A : Amb bs own mL Z p s m c) {o : Int} (hd : decode bs pc = .ok (.ifnonnull o, 3)) (nx : Goes p l e R s m args below meth c n0 Q h cells slots (pc + 3) Ls st) : Goes p l e R s m args below meth c n0 Q h cells slots pc Ls (.null :: st) :=
  Goes.step (fun T locs X _ target k => XT.ifnonnullNo X.here A.1 rfl (hb A.2.1 hd) rfl k) nx
theorem Goes.ifNonY (A : Amb bs own mL Z p s m c) {o : Int} {b : Addr} (hd : decode bs pc = .ok (.ifnonnull o, 3)) (ho : 0 ≤ (pc : Int) + o) (hp : ((pc : Int) + o).toNat = pc') (nx : Goes p l e R s m args below meth c n0 Q h cells slots pc' Ls st) : Goes p l e R s m args below meth c n0 Q h cells slots pc Ls (.ref b :: st) :=
  Goes.step (fun T locs X _ target k => XT.ifnonnullYes X.here A.1 rfl rfl (hb A.2.1 hd) rfl ho hp k) nx
theorem Goes.irem (A : Amb bs own mL Z p s m c) {x y : Int32} (hd : decode bs pc = .ok (.irem, 1)) (hy : y ≠ 0) (nx : Goes p l e R s m args below meth c n0 Q h cells slots (pc + 1) Ls (.int (x % y) :: st)) : Goes p l e R s m args below meth c n0 Q h cells slots pc Ls (.int y :: .int x :: st) :=
  Goes.step (fun T locs X _ target k => iremM X A.1 rfl (hb A.2.1 hd) rfl hy k) nx
theorem Goes.ldcI (A : Amb bs own mL Z p s m c) {index : Nat} {v : Int32} (w : (Cond.constant own index v).before a0 Z = true) (hd : decode bs pc = .ok (.ldc index, 2)) (nx : Goes p l e R s m args below meth c n0 Q h cells slots (pc + 2) Ls (.int v :: st)) : Goes p l e R s m args below meth c n0 Q h cells slots pc Ls st :=
  Goes.step (fun T locs X _ target k => Jvm.Stand.ldcI X A.1 A.2.2.2.1 (mvT A.2.2.1 w) rfl (hb A.2.1 hd) k) nx
theorem Goes.ldcL (A : Amb bs own mL Z p s m c) {index : Nat} {v : Int64} (w : (Jvm.Cond.constantLong own index v).before a0 Z = true) (hd : decode bs pc = .ok (.ldc2_w index, 3)) (nx : Goes p l e R s m args below meth c n0 Q h cells slots (pc + 3) Ls (.long v :: st)) : Goes p l e R s m args below meth c n0 Q h cells slots pc Ls st :=
  Goes.step (fun T locs X _ target k => Jvm.Stand.ldc2J X A.1 A.2.2.2.1 (mvT A.2.2.1 w) rfl (hb A.2.1 hd) k) nx
theorem Goes.swIn (A : Amb bs own mL Z p s m c) {dflt low high : Int} {offs : Array Int} {len : Nat} {o : Int} {i : Int32} (hd : decode bs pc = .ok (.tableswitch dflt low high offs, len)) (hin : ¬ (i.toInt < low ∨ i.toInt > high)) (hoff : offs[(i.toInt - low).toNat]? = some o) (ho : 0 ≤ (pc : Int) + o) (hp : ((pc : Int) + o).toNat = pc') (nx : Goes p l e R s m args below meth c n0 Q h cells slots pc' Ls st) : Goes p l e R s m args below meth c n0 Q h cells slots pc Ls (.int i :: st) :=
  Goes.step (fun T locs X _ target k => XS.tswIn X.here A.1 rfl rfl (hb A.2.1 hd) rfl hin hoff ho hp k) nx
theorem Goes.getS (A : Amb bs own mL Z p s m c) {R0 O n d : String} {index : Nat} {v : Value} (w : (Cond.fieldLink own index R0 n d).before a0 Z = true) (via : Via Z R0 O n d) (F : Sta Z h O n d v) (hd : decode bs pc = .ok (.getstatic index, 3)) (nx : Goes p l e R s m args below meth c n0 Q h cells slots (pc + 3) Ls (v :: st)) : Goes p l e R s m args below meth c n0 Q h cells slots pc Ls st :=
  Goes.stay (fun T locs X eT => Jvm.RoadKit.getS (host := "") (g := mkF m pc Ls st) X A.1 A.2.2.1 A.2.2.2.1 w via eT F rfl (hb A.2.1 hd)) nx
theorem Goes.getF (A : Amb bs own mL Z p s m c) {R0 O n d : String} {index : Nat} {v : Value} {a : Addr} (w : (Cond.fieldLink own index R0 n d).before a0 Z = true) (via : Via Z R0 O n d) (F : Fld Z h a O n d v) (hd : decode bs pc = .ok (.getfield index, 3)) (nx : Goes p l e R s m args below meth c n0 Q h cells slots (pc + 3) Ls (v :: st)) : Goes p l e R s m args below meth c n0 Q h cells slots pc Ls (.ref a :: st) :=
  Goes.stay (fun T locs X eT => Jvm.RoadKit.getF (host := "") (g := mkF m pc Ls (.ref a :: st)) X A.1 A.2.2.1 A.2.2.2.1 (Or.inl w) via eT F rfl rfl (hb A.2.1 hd)) nx
theorem Goes.retV (A : Amb bs own mL Z p s m c) (hret : meth.sig.returnType = none) (hlk : meth.locks = false) (hd : decode bs pc = .ok (.return_, 1)) (hc : cells ≤ R.cells) (hs : slots ≤ R.slots) (hQ : Q none h) : Goes p l e R s m args below meth c n0 Q h cells slots pc Ls [] := by
  intro T locs X N eT
  obtain ⟨fs, hr, hrun, hended, hW, hsame⟩ := X.leave (v := none) (fun _ => rfl) hlk
  exact ⟨_, none, locs, X.returnOut A.1 hret (hb A.2.1 hd) hr, hrun, hended, (by subst eT; exact hQ), N, ⟨_, rfl⟩, hW, hsame.mono hc hs⟩
theorem Goes.retB (A : Amb bs own mL Z p s m c) {t : FieldType} {z z' : Int32} (hret : meth.sig.returnType = some t) (ht : t = .boolean ∨ t = .byte ∨ t = .char ∨ t = .short) (hlk : meth.locks = false) (hd : decode bs pc = .ok (.ireturn, 1)) (hn : nar t z = z') (hc : cells ≤ R.cells) (hs : slots ≤ R.slots) (hQ : Q (some (.int z')) h) : Goes p l e R s m args below meth c n0 Q h cells slots pc Ls (.int z :: st) := by
  subst hn
  intro T locs X N eT
  obtain ⟨fs, hr, hrun, hended, hW, hsame⟩ := X.leave (v := some (.int (nar t z))) (fun q => by rw [hret] at q; cases q) hlk
  exact ⟨_, some (.int (nar t z)), locs, retN X A.1 hret ht (hb A.2.1 hd) hr, hrun, hended, (by subst eT; exact hQ), N, ⟨_, rfl⟩, hW, hsame.mono hc hs⟩
theorem Goes.retI (A : Amb bs own mL Z p s m c) {z : Int32} (hret : meth.sig.returnType = some .int) (hlk : meth.locks = false) (hd : decode bs pc = .ok (.ireturn, 1)) (hc : cells ≤ R.cells) (hs : slots ≤ R.slots) (hQ : Q (some (.int z)) h) : Goes p l e R s m args below meth c n0 Q h cells slots pc Ls (.int z :: st) := by
  intro T locs X N eT
  obtain ⟨fs, hr, hrun, hended, hW, hsame⟩ := X.leave (v := some (.int z)) (fun q => by rw [hret] at q; cases q) hlk
  exact ⟨_, some (.int z), locs, retOut X A.1 hret rfl (Or.inl ⟨rfl, Or.inl rfl, z, rfl⟩) (hb A.2.1 hd) hr, hrun, hended, (by subst eT; exact hQ), N, ⟨_, rfl⟩, hW, hsame.mono hc hs⟩
theorem Goes.retA (A : Amb bs own mL Z p s m c) {t : FieldType} {v : Value} (hret : meth.sig.returnType = some t) (ht : t.isReference = true) (hv : v.isRef = true) (hn : narrow t v = v) (hlk : meth.locks = false) (hd : decode bs pc = .ok (.areturn, 1)) (hc : cells ≤ R.cells) (hs : slots ≤ R.slots) (hQ : Q (some v) h) : Goes p l e R s m args below meth c n0 Q h cells slots pc Ls (v :: st) := by
  intro T locs X N eT
  obtain ⟨fs, hr, hrun, hended, hW, hsame⟩ := X.leave (v := some v) (fun q => by rw [hret] at q; cases q) hlk
  exact ⟨_, some v, locs, retOut X A.1 hret hn (Or.inr (Or.inr (Or.inr (Or.inr ⟨rfl, ht, hv⟩)))) (hb A.2.1 hd) hr, hrun, hended, (by subst eT; exact hQ), N, ⟨_, rfl⟩, hW, hsame.mono hc hs⟩
/-- a body's contract: called with these arguments at this heap it returns, and Qc holds; what it writes lies at or above n0 -/
def Con (l : Launch) (Z : State) (n0 : Nat) (y : MethodName) (bs : ByteArray) (mL : Nat) (ret : Option FieldType) (rm : Room) (as : Array Value) (h : Heap) (Qc : Option Value → Heap → Prop) : Prop :=
  ∀ ws : List Jvm.Cond, MetFree l y (head1 (Jvm.Cond.code y bs mL ret :: ws) rm) (fun a U => a = as ∧ Z.Warmed39 U.vm ∧ U.heap = h) (fun _ _ _ _ _ => True) (fun _ U o U' => ∃ v L, o = .returned v ∧ (Qc v U'.heap ∧ Fr n0 L) ∧ FrameEnd U o U' L rm.cells rm.slots)
theorem Con.mk {y : MethodName} {ret : Option FieldType} {as : Array Value} {rm : Room} (hpn : plainFor y = true) (hef : ∀ m, entryFrame m as mL = mkF m 0 Ls [])
    (body : ∀ (p : Program) (e : Env) (s : State) (m : MethodId) (below : List Frame) (meth : Method) (c : Code), Amb bs y.cls mL Z p s m c → meth.sig.returnType = ret → meth.locks = false → meth.name = y.name → Goes p l e rm s m as below meth c n0 Q h 0 0 0 Ls []) : Con l Z n0 y bs mL ret rm as h Q := by
  intro ws
  refine MetFree.of_bodySF hpn hisR ?_
  intro p e s m args below meth c s₁ Bd hml0 hP hK
  obtain ⟨rfl, hZ, hh⟩ := hP
  have X0 : Stand p l e rm s m _ below meth c s₁ [] 0 0 := Stand.of_body Bd
  have e0 : s₁.heap = h := by rw [← hh, Bd.state]; rfl
  obtain ⟨s₂, v, L, h1, h2, h3, h4, h5, h6⟩ := body p e s m below meth c ⟨Bd.exec, Bd.bytes, hZ, findClass_of_methodNamed Bd.named, hml0⟩ Bd.returns (BodyLoose.notSynchronized Bd) (name_of_methodNamed Bd.named Bd.method).1 s₁ [] X0 (Fr.nil _) e0
  exact ⟨s₂, _, castTop (hef m) h1, h2, h3, v, L, rfl, ⟨h4, h5⟩, h6⟩
theorem Con.mono {y : MethodName} {ret : Option FieldType} {as : Array Value} {rm : Room} {Q' : Option Value → Heap → Prop} (K : Con l Z n0 y bs mL ret rm as h Q) (f : ∀ v h', Q v h' → Q' v h') : Con l Z n0 y bs mL ret rm as h Q' := by
  intro ws p e h1 h2 h3 s m args below h4 h5 h6 h7
  obtain ⟨n, o, g1, g2, g3, v, L, g4, g5, g6⟩ := K ws p e h1 h2 h3 s m args below h4 h5 h6 h7
  exact ⟨n, o, g1, g2, g3, v, L, g4, ⟨f _ _ g5.1, g5.2⟩, g6⟩
theorem Goes.static (A : Amb bs own mL Z p s m c) {index : Nat} {y : MethodName} {bc : ByteArray} {mC W : Nat} {ret : Option FieldType} {rm : Room} {argsL : List Value} {Qc : Option Value → Heap → Prop} {ps : List FieldType} {r : Option FieldType}
    (hlink : (Jvm.Cond.methodLink own index y).before a0 Z = true) (hstat : (Jvm.Cond.static y).before a0 Z = true) (hinit : (Jvm.Cond.initialized y.cls).before a0 Z = true) (hcode : (Jvm.Cond.code y bc mC ret).before a0 Z = true)
    (hd : decode bs pc = .ok (.invokestatic index, 3)) (hlen : parseMethodDescriptor y.desc = some ⟨ps, r⟩) (hy : y.cls ≠ "java/lang/invoke/MethodHandle" ∧ y.cls ≠ "java/lang/invoke/VarHandle")
    (hl : argsL.length = ps.length) (hst : st = argsL.reverse ++ rest) (hsz : Ls.size = mL) (hW : (rest.map fun v => v.category).sum ≤ W)
    (hf : rm.frames + 1 ≤ R.frames) (hlo : W + (mC + 11) + rm.locals ≤ R.locals) (hcl : cells + rm.cells ≤ R.cells) (hsl : slots + rm.slots ≤ R.slots)
    (K : Con l Z n0 y bc mC ret rm argsL.toArray h Qc)
    (nx : ∀ (v : Option Value) (h' : Heap), Qc v h' → Goes p l e R s m args below meth c n0 Q h' (cells + rm.cells) (slots + rm.slots) (pc + 3) Ls (v.toList ++ rest)) : Goes p l e R s m args below meth c n0 Q h cells slots pc Ls st := by
  intro T locs X N eT
  obtain ⟨v, _, ⟨T', L', k', n'⟩, -, X', ⟨Lc, hQ, q1, q2, q3⟩, stp⟩ := Jvm.LawKit.callS X A.1 A.2.2.2.1 (mvT A.2.2.1 hlink) (mvT A.2.2.1 hstat) (mvT A.2.2.1 hinit) (mvT A.2.2.1 hcode) hy (backOf (Q := fun v h' L => Qc v h' ∧ Fr n0 L) (W := W) (K []) A.2.2.1 hcode hinit hf hlo) (g := mkF m pc Ls st) rfl (by rw [A.2.2.2.2]; exact hsz) (argsL := argsL) (rest := rest) (lenOf hlen hl) hst (by show 2 * 0 + _ ≤ _; omega) (hb A.2.1 hd) (fun _ _ => ⟨rfl, eT, hcl, hsl⟩)
  dsimp only [Pt.U, Pt.locs, Pt.cells, Pt.slots] at X' q1 q2 q3 stp hQ
  subst q1 q2 q3
  obtain ⟨s₂, v2, L2, h1, r2⟩ := nx v T'.heap hQ.1 T' _ X' (Fr.app N hQ.2) rfl
  exact ⟨s₂, v2, L2, stp _ h1, r2⟩
theorem Goes.virt (A : Amb bs own mL Z p s m c) {index : Nat} {y z : MethodName} {C : String} {bc : ByteArray} {mC W : Nat} {ret : Option FieldType} {rm : Room} {a : Addr} {argsL : List Value} {Qc : Option Value → Heap → Prop} {ps : List FieldType} {r : Option FieldType}
    (hlink : (Jvm.Cond.methodLink own index y).before a0 Z = true) (hdecl : (Jvm.Cond.declares y).before a0 Z = true) (hsy : (Jvm.Cond.selects y.cls y y).before a0 Z = true) (hsel : (Jvm.Cond.selects C y z).before a0 Z = true) (hinst : (Jvm.Cond.instanceMethod z).before a0 Z = true) (hinit : (Jvm.Cond.initialized z.cls).before a0 Z = true) (hcode : (Jvm.Cond.code z bc mC ret).before a0 Z = true)
    (hd : decode bs pc = .ok (.invokevirtual index, 3)) (hlen : parseMethodDescriptor y.desc = some ⟨ps, r⟩) (hy : y.cls ≠ "java/lang/invoke/MethodHandle" ∧ y.cls ≠ "java/lang/invoke/VarHandle")
    (E : Exa Z h a C) (hl : argsL.length = ps.length) (hst : st = argsL.reverse ++ .ref a :: rest) (hsz : Ls.size = mL) (hW : (rest.map fun v => v.category).sum ≤ W)
    (hf : rm.frames + 1 ≤ R.frames) (hlo : W + (mC + 11) + rm.locals ≤ R.locals) (hcl : cells + rm.cells ≤ R.cells) (hsl : slots + rm.slots ≤ R.slots)
    (K : Con l Z n0 z bc mC ret rm (.ref a :: argsL).toArray h Qc)
    (nx : ∀ (v : Option Value) (h' : Heap), Qc v h' → Goes p l e R s m args below meth c n0 Q h' (cells + rm.cells) (slots + rm.slots) (pc + 3) Ls (v.toList ++ rest)) : Goes p l e R s m args below meth c n0 Q h cells slots pc Ls st := by
  intro T locs X N eT
  obtain ⟨cq, kq, qa, qb, qc⟩ := isOf A.2.2.1 eT E
  obtain ⟨v, _, ⟨T', L', k', n'⟩, -, X', ⟨Lc, hQ, q1, q2, q3⟩, stp⟩ := X.virtualBack A.1 (y := y) (z := z) A.2.2.2.1 (mvT A.2.2.1 hlink) (mvT A.2.2.1 hdecl) (notFace_of_selects (args := #[]) (mvT A.2.2.1 hsy)) (mvT A.2.2.1 hsel) (mvT A.2.2.1 hinst) hy (backOf (Q := fun v h' L => Qc v h' ∧ Fr n0 L) (W := W) (K []) A.2.2.1 hcode hinit hf hlo) qa qc (g := mkF m pc Ls st) rfl (by rw [A.2.2.2.2]; exact hsz) (Steps.refl _) (argsL := argsL) (rest := rest) (lenOf hlen hl) hst (by show 2 * 0 + _ ≤ _; omega) (hb A.2.1 hd) (fun _ _ => ⟨rfl, eT, hcl, hsl⟩)
  dsimp only [Pt.U, Pt.locs, Pt.cells, Pt.slots] at X' q1 q2 q3 stp hQ
  subst q1 q2 q3
  obtain ⟨s₂, v2, L2, h1, r2⟩ := nx v T'.heap hQ.1 T' _ X' (Fr.app N hQ.2) rfl
  exact ⟨s₂, v2, L2, stp.trans h1, r2⟩
theorem Goes.virtU (A : Amb bs own mL Z p s m c) {index : Nat} {y z : MethodName} {C owner : String} {bc : ByteArray} {mC W : Nat} {ret : Option FieldType} {rm : Room} {a : Addr} {argsL : List Value} {Qc : Option Value → Heap → Prop} {ps : List FieldType} {r : Option FieldType}
    (hlink : (Jvm.Cond.methodLink own index y).before a0 Z = true) (hsame : (Jvm.Cond.sameMethod y.cls owner y.name y.desc).before a0 Z = true) (hdecl : (Jvm.Cond.declares ⟨owner, y.name, y.desc⟩).before a0 Z = true) (hsel : (Jvm.Cond.selects C y z).before a0 Z = true) (hinst : (Jvm.Cond.instanceMethod z).before a0 Z = true) (hinit : (Jvm.Cond.initialized z.cls).before a0 Z = true) (hcode : (Jvm.Cond.code z bc mC ret).before a0 Z = true)
    (hd : decode bs pc = .ok (.invokevirtual index, 3)) (hlen : parseMethodDescriptor y.desc = some ⟨ps, r⟩) (hy : owner ≠ "java/lang/invoke/MethodHandle" ∧ owner ≠ "java/lang/invoke/VarHandle")
    (E : Exa Z h a C) (hl : argsL.length = ps.length) (hst : st = argsL.reverse ++ .ref a :: rest) (hsz : Ls.size = mL) (hW : (rest.map fun v => v.category).sum ≤ W)
    (hf : rm.frames + 1 ≤ R.frames) (hlo : W + (mC + 11) + rm.locals ≤ R.locals) (hcl : cells + rm.cells ≤ R.cells) (hsl : slots + rm.slots ≤ R.slots)
    (K : Con l Z n0 z bc mC ret rm (.ref a :: argsL).toArray h Qc)
    (nx : ∀ (v : Option Value) (h' : Heap), Qc v h' → Goes p l e R s m args below meth c n0 Q h' (cells + rm.cells) (slots + rm.slots) (pc + 3) Ls (v.toList ++ rest)) : Goes p l e R s m args below meth c n0 Q h cells slots pc Ls st := by
  intro T locs X N eT
  obtain ⟨cq, kq, qa, qb, qc⟩ := isOf A.2.2.1 eT E
  obtain ⟨v, _, ⟨T', L', k', n'⟩, -, X', ⟨Lc, hQ, q1, q2, q3⟩, stp⟩ := X.virtualBackUp A.1 (x := y) (y := z) (owner := owner) A.2.2.2.1 (mvT A.2.2.1 hlink) (mvT A.2.2.1 hsame) (mvT A.2.2.1 hdecl) hy (mvT A.2.2.1 hsel) (mvT A.2.2.1 hinst) (backOf (Q := fun v h' L => Qc v h' ∧ Fr n0 L) (W := W) (K []) A.2.2.1 hcode hinit hf hlo) qa qc (g := mkF m pc Ls st) rfl (by rw [A.2.2.2.2]; exact hsz) (Steps.refl _) (argsL := argsL) (rest := rest) (lenOf hlen hl) hst (by show 2 * 0 + _ ≤ _; omega) (hb A.2.1 hd) (fun _ _ => ⟨rfl, eT, hcl, hsl⟩)
  dsimp only [Pt.U, Pt.locs, Pt.cells, Pt.slots] at X' q1 q2 q3 stp hQ
  subst q1 q2 q3
  obtain ⟨s₂, v2, L2, h1, r2⟩ := nx v T'.heap hQ.1 T' _ X' (Fr.app N hQ.2) rfl
  exact ⟨s₂, v2, L2, stp.trans h1, r2⟩
theorem selfsel {y y1 z1 : MethodName} {C1 : String} (w : (Jvm.Cond.selects C1 y1 z1).before a0 Z = true) (e1 : z1.cls = y.cls) (wp : (Jvm.Cond.privateMethod y).before a0 Z = true) (wi : (Jvm.Cond.instanceMethod y).before a0 Z = true) (hy : y.cls ≠ "java/lang/invoke/MethodHandle" ∧ y.cls ≠ "java/lang/invoke/VarHandle") : (Jvm.Cond.selects y.cls y y).before a0 Z = true := by
  obtain ⟨c2, r2, m2, -, -, q3, -, kP, hkP, hkPi⟩ := Cond.selects_spec w
  exact selects_self_of_private (by rw [← e1]; exact findClass_of_methodNamed q3) hkP hkPi (Cond.privateMethod_at wp) wi hy
theorem Goes.priv (A : Amb bs own mL Z p s m c) {index : Nat} {y : MethodName} {bc : ByteArray} {mC W : Nat} {ret : Option FieldType} {rm : Room} {a : Addr} {C : String} {argsL : List Value} {Qc : Option Value → Heap → Prop} {ps : List FieldType} {r : Option FieldType}
    (hlink : (Jvm.Cond.methodLink own index y).before a0 Z = true) (hinst : (Jvm.Cond.instanceMethod y).before a0 Z = true) (hsel : (Jvm.Cond.selects y.cls y y).before a0 Z = true) (hpriv : (Jvm.Cond.privateMethod y).before a0 Z = true) (hinit : (Jvm.Cond.initialized y.cls).before a0 Z = true) (hcode : (Jvm.Cond.code y bc mC ret).before a0 Z = true)
    (hd : decode bs pc = .ok (.invokevirtual index, 3)) (hlen : parseMethodDescriptor y.desc = some ⟨ps, r⟩) (hy : y.cls ≠ "java/lang/invoke/MethodHandle" ∧ y.cls ≠ "java/lang/invoke/VarHandle")
    (E : Exa Z h a C) (hl : argsL.length = ps.length) (hst : st = argsL.reverse ++ .ref a :: rest) (hsz : Ls.size = mL) (hW : (rest.map fun v => v.category).sum ≤ W)
    (hf : rm.frames + 1 ≤ R.frames) (hlo : W + (mC + 11) + rm.locals ≤ R.locals) (hcl : cells + rm.cells ≤ R.cells) (hsl : slots + rm.slots ≤ R.slots)
    (K : Con l Z n0 y bc mC ret rm (.ref a :: argsL).toArray h Qc)
    (nx : ∀ (v : Option Value) (h' : Heap), Qc v h' → Goes p l e R s m args below meth c n0 Q h' (cells + rm.cells) (slots + rm.slots) (pc + 3) Ls (v.toList ++ rest)) : Goes p l e R s m args below meth c n0 Q h cells slots pc Ls st := by
  intro T locs X N eT
  obtain ⟨cl, hcl1, hcl2⟩ := E.cell
  obtain ⟨v, _, ⟨T', L', k', n'⟩, -, X', ⟨Lc, hQ, q1, q2, q3⟩, stp⟩ := X.privateBack A.1 (y := y) A.2.2.2.1 (mvT A.2.2.1 hlink) (mvT A.2.2.1 hinst) (mvT A.2.2.1 hsel) (Cond.privateMethod_at (mvP (args := #[]) A.2.2.1 hpriv)) (mvT A.2.2.1 hcode) hy (backOf (Q := fun v h' L => Qc v h' ∧ Fr n0 L) (W := W) (K []) A.2.2.1 hcode hinit hf hlo) (g := mkF m pc Ls st) rfl (by rw [A.2.2.2.2]; exact hsz) (Steps.refl _) (by rw [eT]; exact hcl1) hcl2 (argsL := argsL) (rest := rest) (lenOf hlen hl) hst (by show 2 * 0 + _ ≤ _; omega) (hb A.2.1 hd) (fun _ _ => ⟨rfl, eT, hcl, hsl⟩)
  dsimp only [Pt.U, Pt.locs, Pt.cells, Pt.slots] at X' q1 q2 q3 stp hQ
  subst q1 q2 q3
  obtain ⟨s₂, v2, L2, h1, r2⟩ := nx v T'.heap hQ.1 T' _ X' (Fr.app N hQ.2) rfl
  exact ⟨s₂, v2, L2, stp.trans h1, r2⟩
theorem Goes.spec (A : Amb bs own mL Z p s m c) {index : Nat} {y : MethodName} {bc : ByteArray} {mC W : Nat} {rm : Room} {a : Addr} {argsL : List Value} {Qc : Option Value → Heap → Prop} {ps : List FieldType} {r : Option FieldType} (hy1 : y.name = "<init>")
    (hlink : (Jvm.Cond.methodLink own index y).before a0 Z = true) (hinst : (Jvm.Cond.instanceMethod y).before a0 Z = true) (hinit : (Jvm.Cond.initialized y.cls).before a0 Z = true) (hcode : (Jvm.Cond.code y bc mC none).before a0 Z = true)
    (hd : decode bs pc = .ok (.invokespecial index, 3)) (hlen : parseMethodDescriptor y.desc = some ⟨ps, r⟩) (hy : y.cls ≠ "java/lang/invoke/MethodHandle" ∧ y.cls ≠ "java/lang/invoke/VarHandle")
    (hl : argsL.length = ps.length) (hst : st = argsL.reverse ++ .ref a :: rest) (hsz : Ls.size = mL) (hW : (rest.map fun v => v.category).sum ≤ W)
    (hf : rm.frames + 1 ≤ R.frames) (hlo : W + (mC + 11) + rm.locals ≤ R.locals) (hcl : cells + rm.cells ≤ R.cells) (hsl : slots + rm.slots ≤ R.slots)
    (K : Con l Z n0 y bc mC none rm (.ref a :: argsL).toArray h Qc)
    (nx : ∀ (v : Option Value) (h' : Heap), Qc v h' → Goes p l e R s m args below meth c n0 Q h' (cells + rm.cells) (slots + rm.slots) (pc + 3) Ls (v.toList ++ rest)) : Goes p l e R s m args below meth c n0 Q h cells slots pc Ls st := by
  intro T locs X N eT
  obtain ⟨v, _, ⟨T', L', k', n'⟩, -, X', ⟨Lc, hQ, q1, q2, q3⟩, stp⟩ := X.specialBack A.1 (y := y) hy1 A.2.2.2.1 (mvT A.2.2.1 hlink) (mvT A.2.2.1 hinst) (mvT A.2.2.1 hcode) hy (backOf (Q := fun v h' L => Qc v h' ∧ Fr n0 L) (W := W) (K []) A.2.2.1 hcode hinit hf hlo) (g := mkF m pc Ls st) rfl (by rw [A.2.2.2.2]; exact hsz) (Steps.refl _) (a := a) (argsL := argsL) (rest := rest) (lenOf hlen hl) hst (by show 2 * 0 + _ ≤ _; omega) (hb A.2.1 hd) (fun _ _ => ⟨rfl, eT, hcl, hsl⟩)
  dsimp only [Pt.U, Pt.locs, Pt.cells, Pt.slots] at X' q1 q2 q3 stp hQ
  subst q1 q2 q3
  obtain ⟨s₂, v2, L2, h1, r2⟩ := nx v T'.heap hQ.1 T' _ X' (Fr.app N hQ.2) rfl
  exact ⟨s₂, v2, L2, stp.trans h1, r2⟩
end Own
section Own2
variable {Z : State} {a0 : Array Value} {n0 : Nat} {h h' hS : Heap} {ws : List Addr}
/-- what stands at an address: (may it be written), an object of a class with some of its fields, or an array with its components -/
abbrev AO : Type := Addr × Bool × ((String × List ((String × String × String) × Value)) ⊕ (FieldType × List Value))
abbrev SO : Type := (String × String × String) × Value
def RepO (Z : State) (a0 : Array Value) (n0 : Nat) (h : Heap) (o : AO) : Prop :=
  (o.2.1 = true → n0 ≤ o.1) ∧ match o.2.2 with
  | .inl q => Exa Z h o.1 q.1 ∧ (∀ f ∈ q.2, Fld Z h o.1 f.1.1 f.1.2.1 f.1.2.2 f.2 ∧ Laid Z a0 q.1 f.1.1 f.1.2.1 f.1.2.2 ∧ ∃ t, parseFieldDescriptor f.1.2.2 = some t) ∧ (q.2.map fun f => f.1.2.1).Nodup
  | .inr q => ∃ c : Cell, Arr Z h o.1 c q.1 ∧ c.slots.toList = q.2 ∧ (∀ v ∈ q.2, fits q.1 v = true) ∧ q.2.length < 2 ^ 31
def Rep (Z : State) (a0 : Array Value) (n0 : Nat) (h : Heap) (G : List SO) (B : List AO) : Prop :=
  (∀ g ∈ G, Sta Z h g.1.1 g.1.2.1 g.1.2.2 g.2) ∧ (∀ o ∈ B, RepO Z a0 n0 h o) ∧ (B.map fun o => o.1).Nodup
variable {o o' : AO} {G G' : List SO} {B B' : List AO}
theorem al0 {α : Type} {P : α → Prop} : ∀ x ∈ ([] : List α), P x := fun _ q => nomatch q
theorem alS {α : Type} {P : α → Prop} {y : α} {L : List α} (q : P y) (r : ∀ x ∈ L, P x) : ∀ x ∈ y :: L, P x := fun x z => (List.mem_cons.mp z).elim (fun u => u ▸ q) (r x)
theorem RepO.plain (F : RepO Z a0 n0 h o) : ∃ c : Cell, h[o.1]? = some c ∧ c.vm.isStatics = false := by
  obtain ⟨a, fl, q | q⟩ := o
  · obtain ⟨-, ⟨c, k, h1, h2, h3, h4, h5⟩, -⟩ := F
    exact ⟨c, h1, h4⟩
  · obtain ⟨-, c, A, -⟩ := F
    exact ⟨c, A.1, A.plain⟩
theorem RepO.lt (F : RepO Z a0 n0 h o) : o.1 < h.size := by
  obtain ⟨c, h1, -⟩ := F.plain
  exact (Array.getElem?_eq_some_iff.mp h1).1
theorem RepO.ext (F : RepO Z a0 n0 h o) (E : Ext h h') : RepO Z a0 n0 h' o := by
  obtain ⟨a, fl, q | q⟩ := o
  · obtain ⟨g, h1, h2, h3⟩ := F
    exact ⟨g, h1.ext E, fun f hf => ⟨(h2 f hf).1.ext E, (h2 f hf).2⟩, h3⟩
  · obtain ⟨g, c, A, r⟩ := F
    exact ⟨g, c, A.ext E, r⟩
theorem RepO.keep (F : RepO Z a0 n0 h o) (K : Keep h h' ws) (q : o.1 ∉ ws) : RepO Z a0 n0 h' o := by
  obtain ⟨a, fl, z | z⟩ := o
  · obtain ⟨g, h1, h2, h3⟩ := F
    exact ⟨g, h1.keep K, fun f hf => ⟨(h2 f hf).1.keep K q, (h2 f hf).2⟩, h3⟩
  · obtain ⟨g, c, A, r⟩ := F
    exact ⟨g, c, ⟨K.2.1 _ c A.1 q, A.2⟩, r⟩
theorem sta_kp {C n d : String} {v : Value} (F : Sta Z h C n d v) (K : Keep h h' ws) (q : ∀ w ∈ ws, ∃ c : Cell, h[w]? = some c ∧ c.vm.isStatics = false) : Sta Z h' C n d v := by
  obtain ⟨cf, i, k, f, st, cell, h1, h2, h3, h4, h5, h6, h7⟩ := F
  refine ⟨cf, i, k, f, st, cell, h1, h2, h3, h4, K.2.1 st cell h5 fun z => ?_, h6, h7⟩
  obtain ⟨c, r1, r2⟩ := q st z
  cases h5.symm.trans r1
  rw [h6] at r2; cases r2
theorem Rep.at (R : Rep Z a0 n0 h G B) {i : Nat} (hi : B[i]? = some o) : RepO Z a0 n0 h o := R.2.1 o (List.mem_of_getElem? hi)
theorem Rep.inj (R : Rep Z a0 n0 h G B) {i j : Nat} (hi : B[i]? = some o) (hj : B[j]? = some o') (e : o.1 = o'.1) : i = j := by
  have h1 : (B.map fun o => o.1)[i]? = some o.1 := by simp [hi]
  have h2 : (B.map fun o => o.1)[j]? = some o'.1 := by simp [hj]
  have hl : i < (B.map fun o => o.1).length := (List.getElem?_eq_some_iff.mp h1).1
  exact (List.getElem?_inj hl R.2.2).mp (by rw [h1, h2, e])
theorem Rep.ne (R : Rep Z a0 n0 h G B) {i j : Nat} (hi : B[i]? = some o) (hj : B[j]? = some o') (e : i ≠ j) : o.1 ≠ o'.1 := fun q => e (R.inj hi hj q)
theorem Rep.ext (R : Rep Z a0 n0 h G B) (E : Ext h h') : Rep Z a0 n0 h' G B := ⟨fun g hg => (R.1 g hg).ext E, fun o ho => (R.2.1 o ho).ext E, R.2.2⟩
theorem Rep.set (R : Rep Z a0 n0 h G B) {i : Nat} (hi : B[i]? = some o) (K : Keep h h' [o.1]) (ho : RepO Z a0 n0 h' o') (ha : o'.1 = o.1) : Rep Z a0 n0 h' G (B.set i o') := by
  refine ⟨fun g hg => sta_kp (R.1 g hg) K fun w hw => ?_, fun x hx => ?_, ?_⟩
  · cases List.mem_singleton.mp hw; exact (R.at hi).plain
  · obtain ⟨k, hk⟩ := List.mem_iff_getElem?.mp hx
    rw [List.getElem?_set] at hk
    split at hk
    · split at hk
      · cases hk; exact ho
      · cases hk
    · rename_i ne
      exact (R.at hk).keep K fun z => ne (R.inj hi hk (List.mem_singleton.mp z).symm)
  · have e : (B.set i o').map (fun o => o.1) = B.map fun o => o.1 := by
      rw [List.map_set, ha]
      refine List.ext_getElem? fun k => ?_
      rw [List.getElem?_set]
      split
      · rename_i e; subst e
        simp only [List.length_map, List.getElem?_map, hi, Option.map_some]
        rw [if_pos (List.getElem?_eq_some_iff.mp hi).1]
      · rfl
    rw [e]; exact R.2.2
theorem RepO.put {a : Addr} {fl : Bool} {C O n d : String} {fs : List SO} {j : Nat} {old v : Value} (F : RepO Z a0 n0 h (a, fl, .inl (C, fs))) (hj : fs[j]? = some ((O, n, d), old)) (W : Wr h h' a (Jvm.RoadKit.slotOf Z O n d) v) : RepO Z a0 n0 h' (a, fl, .inl (C, fs.set j ((O, n, d), v))) := by
  obtain ⟨g, h1, h2, h3⟩ := F
  have hjf := h2 _ (List.mem_of_getElem? hj)
  refine ⟨g, h1.wr W, fun f hf => ?_, ?_⟩
  · obtain ⟨k, hk⟩ := List.mem_iff_getElem?.mp hf
    rw [List.getElem?_set] at hk
    split at hk
    · split at hk
      · cases hk
        exact ⟨hjf.1.same W, hjf.2⟩
      · cases hk
    · rename_i ne
      have hkf := h2 _ (List.mem_of_getElem? hk)
      refine ⟨hkf.1.other W (Or.inr ?_), hkf.2⟩
      obtain ⟨t, ht⟩ := hkf.2.2
      obtain ⟨t', ht'⟩ := hjf.2.2
      refine slot_ne hkf.2.1 hjf.2.1 (fun e => ne ?_) ht ht'
      have q1 : (fs.map fun f => f.1.2.1)[k]? = some f.1.2.1 := by simp [hk]
      have q2 : (fs.map fun f => f.1.2.1)[j]? = some n := by simp [hj]
      have hl : j < (fs.map fun f => f.1.2.1).length := (List.getElem?_eq_some_iff.mp q2).1
      exact ((List.getElem?_inj hl h3).mp (by rw [q1, q2, e]))
  · have e : (fs.set j ((O, n, d), v)).map (fun f => f.1.2.1) = fs.map fun f => f.1.2.1 := by
      rw [List.map_set]
      refine List.ext_getElem? fun k => ?_
      rw [List.getElem?_set]
      split
      · rename_i e; subst e
        simp only [List.length_map, List.getElem?_map, hj, Option.map_some]
        rw [if_pos (List.getElem?_eq_some_iff.mp hj).1]
      · rfl
    show ((fs.set j ((O, n, d), v)).map fun f => f.1.2.1).Nodup
    rw [e]; exact h3
theorem RepO.aset {a : Addr} {fl : Bool} {ty : FieldType} {vs : List Value} {j : Nat} {v : Value} (F : RepO Z a0 n0 h (a, fl, .inr (ty, vs))) (hv : fits ty v = true) (W : Wr h h' a j v) : RepO Z a0 n0 h' (a, fl, .inr (ty, vs.set j v)) := by
  obtain ⟨g, c, A, r, r1, r2⟩ := F
  refine ⟨g, _, A.same W, by simp only [Cell.setSlot, Array.toList_setIfInBounds, r], fun x hx => ?_, by show (vs.set j v).length < 2 ^ 31; rw [List.length_set]; exact r2⟩
  rcases List.mem_or_eq_of_mem_set hx with q | q
  · exact r1 x q
  · rw [q]; exact hv
theorem Rep.push (R : Rep Z a0 n0 h G B) (E : Ext h h') (ho : RepO Z a0 n0 h' o) (ha : h.size ≤ o.1) : Rep Z a0 n0 h' G (B ++ [o]) := by
  refine ⟨(R.ext E).1, fun x hx => ?_, ?_⟩
  · rcases List.mem_append.mp hx with q | q
    · exact (R.ext E).2.1 x q
    · cases List.mem_singleton.mp q; exact ho
  · rw [List.map_append, List.nodup_append]
    refine ⟨R.2.2, by simp, fun x hx y hy e => ?_⟩
    obtain ⟨z, hz, rfl⟩ := List.mem_map.mp hx
    obtain ⟨z', hz', rfl⟩ := List.mem_map.mp hy
    cases List.mem_singleton.mp hz'
    have q : z.1 < h.size := (R.2.1 z hz).lt
    rw [e] at q
    exact Nat.not_lt.mpr ha q
theorem Rep.pick (R : Rep Z a0 n0 h G B) (gs is : List Nat) (hG : gs.map (fun i => G[i]?) = G'.map some) (hB : is.map (fun i => B[i]?) = B'.map some) (hnd : is.Nodup) : Rep Z a0 n0 h G' B' := by
  have key : ∀ {k : Nat} {x : AO}, B'[k]? = some x → ∃ i, is[k]? = some i ∧ B[i]? = some x := fun {k x} hk => by
    have q : (is.map (fun i => B[i]?))[k]? = some (some x) := by rw [hB]; simp [hk]
    simp only [List.getElem?_map, Option.map_eq_some_iff] at q
    obtain ⟨i, h1, h2⟩ := q
    exact ⟨i, h1, h2⟩
  refine ⟨fun g hg => ?_, fun x hx => ?_, ?_⟩
  · obtain ⟨k, hk⟩ := List.mem_iff_getElem?.mp hg
    have q : (gs.map (fun i => G[i]?))[k]? = some (some g) := by rw [hG]; simp [hk]
    simp only [List.getElem?_map, Option.map_eq_some_iff] at q
    obtain ⟨i, h1, h2⟩ := q
    exact R.1 g (List.mem_of_getElem? h2)
  · obtain ⟨k, hk⟩ := List.mem_iff_getElem?.mp hx
    obtain ⟨i, -, hi⟩ := key hk
    exact R.at hi
  · rw [List.Nodup, List.pairwise_iff_getElem]
    intro k l hk hl hkl e
    simp only [List.length_map] at hk hl
    simp only [List.getElem_map] at e
    obtain ⟨i, h1, h2⟩ := key (List.getElem?_eq_getElem hk)
    obtain ⟨j, g1, g2⟩ := key (List.getElem?_eq_getElem hl)
    have ij := R.inj h2 g2 e
    subst ij
    have := (List.getElem?_inj (List.getElem?_eq_some_iff.mp h1).1 hnd).mp (h1.trans g1.symm)
    omega
def updL : List AO → List Nat → List AO → List AO
  | B, i :: is, b :: bs => updL (B.set i b) is bs
  | B, [], bs => B ++ bs
  | B, _ :: _, [] => B
theorem updL_mem {b : AO} : ∀ (B : List AO) (is : List Nat) (bs : List AO), b ∈ updL B is bs → b ∈ bs ∨ (∃ i, i ∉ is ∧ B[i]? = some b) ∨ bs.length < is.length
  | B, i :: is, c :: bs, q => by
    rcases updL_mem (B.set i c) is bs q with r | ⟨j, r1, r2⟩ | r
    · exact Or.inl (List.mem_cons_of_mem _ r)
    · rw [List.getElem?_set] at r2
      split at r2
      · split at r2
        · cases r2; exact Or.inl List.mem_cons_self
        · cases r2
      · rename_i ne
        exact Or.inr (Or.inl ⟨j, fun z => (List.mem_cons.mp z).elim (fun y => ne y.symm) r1, r2⟩)
    · exact Or.inr (Or.inr (by simp only [List.length_cons]; omega))
  | B, [], bs, q => by
    simp only [updL] at q
    rcases List.mem_append.mp q with r | r
    · obtain ⟨k, hk⟩ := List.mem_iff_getElem?.mp r
      exact Or.inr (Or.inl ⟨k, by simp, hk⟩)
    · exact Or.inl r
  | B, i :: is, [], q => Or.inr (Or.inr (by simp))
theorem updL_map : ∀ (B : List AO) (is : List Nat) (bs : List AO), (∀ (k i : Nat) (b : AO), is[k]? = some i → bs[k]? = some b → (B[i]?).map (fun o : AO => o.1) = some b.1) → (updL B is bs).map (fun o => o.1) = (B.map fun o => o.1) ++ ((bs.drop is.length).map fun o => o.1)
  | B, i :: is, c :: bs, q => by
    have e : (B.set i c).map (fun o => o.1) = B.map fun o => o.1 := by
      rw [List.map_set]
      refine List.ext_getElem? fun k => ?_
      rw [List.getElem?_set]
      have q0 := q 0 i c rfl rfl
      split
      · rename_i e; subst e
        simp only [List.length_map, List.getElem?_map]
        rw [q0]
        rw [if_pos (by
          cases hz : B[i]? with
          | none => simp [hz] at q0
          | some y => exact (List.getElem?_eq_some_iff.mp hz).1)]
      · rfl
    rw [updL, updL_map (B.set i c) is bs (fun k j b h1 h2 => by
      have := q (k + 1) j b (by simpa using h1) (by simpa using h2)
      rw [← this, ← List.getElem?_map, ← List.getElem?_map, e]), e]
    simp
  | B, [], bs, q => by simp [updL]
  | B, i :: is, [], q => by simp [updL]
/-- behind a call: the objects at the places 'is' are now the first of B', the rest of B' is new; all others stand -/
theorem Rep.upd (R : Rep Z a0 n0 h G B) (K : Keep h h' ws) (is : List Nat) (R' : Rep Z a0 n0 h' G' B') (hlen : is.length ≤ B'.length) (haddr : is.map (fun i => (B[i]?).map fun o => o.1) = (B'.take is.length).map fun o => some o.1) (js : List Nat) (hj : ws.map some = js.map fun j => (B[j]?).map fun o => o.1) (hjs : ∀ j ∈ js, j ∈ is) (hnew : ∀ b ∈ B'.drop is.length, h.size ≤ b.1) : Rep Z a0 n0 h' G (updL B is B') := by
  have hws : ∀ w ∈ ws, ∃ i ∈ is, (B[i]?).map (fun o => o.1) = some w := fun w hw => by
    have q : some w ∈ ws.map some := List.mem_map.mpr ⟨w, hw, rfl⟩
    rw [hj] at q
    obtain ⟨j, h1, h2⟩ := List.mem_map.mp q
    exact ⟨j, hjs j h1, h2⟩
  have hpl : ∀ w ∈ ws, ∃ c : Cell, h[w]? = some c ∧ c.vm.isStatics = false := fun w hw => by
    obtain ⟨i, -, q⟩ := hws w hw
    simp only [Option.map_eq_some_iff] at q
    obtain ⟨o, q1, rfl⟩ := q
    exact (R.at q1).plain
  have had : ∀ (k i : Nat) (b : AO), is[k]? = some i → B'[k]? = some b → (B[i]?).map (fun o : AO => o.1) = some b.1 := fun k i b h1 h2 => by
    have hk : k < is.length := (List.getElem?_eq_some_iff.mp h1).1
    have q : (is.map (fun i => (B[i]?).map fun o => o.1))[k]? = ((B'.take is.length).map fun o => some o.1)[k]? := by rw [haddr]
    simp only [List.getElem?_map, h1, Option.map_some, List.getElem?_take, hk, if_true, h2] at q
    exact Option.some.inj q
  refine ⟨fun g hg => sta_kp (R.1 g hg) K hpl, fun x hx => ?_, ?_⟩
  · rcases updL_mem B is B' hx with q | ⟨i, q1, q2⟩ | q
    · exact R'.2.1 x q
    · refine (R.at q2).keep K fun z => ?_
      obtain ⟨j, hj, e⟩ := hws _ z
      simp only [Option.map_eq_some_iff] at e
      obtain ⟨o, e1, e2⟩ := e
      exact q1 (R.inj q2 e1 e2.symm ▸ hj)
    · omega
  · rw [updL_map B is B' had, List.nodup_append]
    refine ⟨R.2.2, ?_, fun x hx y hy e => ?_⟩
    · exact List.Nodup.sublist ((List.drop_sublist _ _).map _) R'.2.2
    · obtain ⟨z, hz, rfl⟩ := List.mem_map.mp hx
      obtain ⟨z', hz', rfl⟩ := List.mem_map.mp hy
      have q : z.1 < h.size := (R.2.1 z hz).lt
      rw [e] at q
      exact Nat.not_lt.mpr (hnew z' hz') q
theorem Rep.fld (R : Rep Z a0 n0 h G B) {i j : Nat} {a : Addr} {fl : Bool} {C : String} {fs : List SO} {g : SO} (hi : B[i]? = some (a, fl, .inl (C, fs))) (hj : fs[j]? = some g) : Fld Z h a g.1.1 g.1.2.1 g.1.2.2 g.2 := ((R.at hi).2.2.1 _ (List.mem_of_getElem? hj)).1
theorem Rep.exa (R : Rep Z a0 n0 h G B) {i : Nat} {a : Addr} {fl : Bool} {C : String} {fs : List SO} (hi : B[i]? = some (a, fl, .inl (C, fs))) : Exa Z h a C := (R.at hi).2.1
theorem Rep.low (R : Rep Z a0 n0 h G B) {i : Nat} {a : Addr} {q} (hi : B[i]? = some (a, true, q)) : n0 ≤ a := (R.at hi).1 rfl
theorem Rep.sta (R : Rep Z a0 n0 h G B) {i : Nat} {g : SO} (hi : G[i]? = some g) : Sta Z h g.1.1 g.1.2.1 g.1.2.2 g.2 := R.1 g (List.mem_of_getElem? hi)
def LayL (Z : State) (a0 : Array Value) (C : String) : List SO → Prop
  | [] => True
  | f :: r => (Laid Z a0 C f.1.1 f.1.2.1 f.1.2.2 ∧ ∃ ty, parseFieldDescriptor f.1.2.2 = some ty ∧ f.2 = defaultValue ty) ∧ LayL Z a0 C r
theorem LayL.mem {C : String} {f : SO} : ∀ {fs : List SO}, LayL Z a0 C fs → f ∈ fs → Laid Z a0 C f.1.1 f.1.2.1 f.1.2.2 ∧ ∃ ty, parseFieldDescriptor f.1.2.2 = some ty ∧ f.2 = defaultValue ty
  | [], _, q => by cases q
  | g :: r, ⟨h1, h2⟩, q => by
    rcases List.mem_cons.mp q with rfl | q
    · exact h1
    · exact LayL.mem h2 q
end Own2
section Own3
variable {p : Program} {l : Launch} {e : Env} {R : Room} {s : State} {m : MethodId} {args : Array Value} {below : List Frame} {meth : Method} {c : Code} {Z : State} {a0 : Array Value} {n0 : Nat} {Q : Option Value → Heap → Prop} {h : Heap} {cells slots pc pc' : Nat} {Ls Ls' : Array Slot} {st st' rest : List Value} {bs : ByteArray} {own : String} {mL : Nat} {T : State} {locs : List Loc}
variable {hS : Heap} {ws : List Addr} {G : List SO} {B : List AO}
theorem Goes.put (A : Amb bs own mL Z p s m c) {R0 O n d C : String} {index kk i j : Nat} {a : Addr} {v old : Value} {fs : List SO} {ty : FieldType} (w : (Jvm.Cond.fieldLink own index R0 n d).before a0 Z = true) (via : Via Z R0 O n d) (Rp : Rep Z a0 n0 h G B) (K : Keep hS h ws) (hi : B[i]? = some (a, true, .inl (C, fs))) (hj : fs[j]? = some ((O, n, d), old))
    (ka : a ∈ ws ∨ hS.size ≤ a) (L : (Jvm.Cond.lays C O n d).before a0 Z = true ∨ ((Jvm.Cond.laysFinal C O n d).before a0 Z = true ∧ own = O ∧ meth.name = "<init>")) (wi : (Jvm.Cond.instantiable C kk).before a0 Z = true) (hty : parseFieldDescriptor d = some ty) (hn : narrow ty v = v) (hf : fits ty v = true) (hd : decode bs pc = .ok (.putfield index, 3))
    (nx : ∀ h', Keep hS h' ws → Rep Z a0 n0 h' G (B.set i (a, true, .inl (C, fs.set j ((O, n, d), v)))) → Goes p l e R s m args below meth c n0 Q h' cells slots (pc + 3) Ls st) : Goes p l e R s m args below meth c n0 Q h cells slots pc Ls (v :: .ref a :: st) := by
  intro T locs X N eT
  obtain ⟨T', h', X', eT', W, stp⟩ := Jvm.RoadKit.putF (host := "") (g := mkF m pc Ls (v :: .ref a :: st)) X A.1 A.2.2.1 A.2.2.2.1 (Or.inl w) via eT (Rp.fld hi hj) (Rp.exa hi) L wi hty hn hf rfl rfl (hb A.2.1 hd)
  obtain ⟨s₂, v2, L2, h1, r2⟩ := nx h' (K.wr W ka) (Rp.set hi (Keep.of_wr W) ((Rp.at hi).put hj W) rfl) T' _ X' (N.app fun y hy => by cases List.mem_singleton.mp hy; exact Rp.low hi) eT'
  exact ⟨s₂, v2, L2, stp _ h1, r2⟩
theorem Goes.newObj (A : Amb bs own mL Z p s m c) {C : String} {index n : Nat} {fs : List SO} (w : (Jvm.Cond.classLink own index C).before a0 Z = true) (wi : (Jvm.Cond.instantiable C n).before a0 Z = true) (wz : (Jvm.Cond.initialized C).before a0 Z = true) (Rp : Rep Z a0 n0 h G B) (K : Keep hS h ws) (Z0 : n0 ≤ hS.size) (hfs : LayL Z a0 C fs) (hnd : (fs.map fun f => f.1.2.1).Nodup) (hd : decode bs pc = .ok (.new index, 3)) (hc : cells + 1 ≤ R.cells) (hl : slots + n ≤ R.slots)
    (nx : ∀ a h', hS.size ≤ a → h.size ≤ a → Keep hS h' ws → Rep Z a0 n0 h' G (B ++ [(a, true, .inl (C, fs))]) → Goes p l e R s m args below meth c n0 Q h' (cells + 1) (slots + n) (pc + 3) Ls (.ref a :: st)) : Goes p l e R s m args below meth c n0 Q h cells slots pc Ls st := by
  intro T locs X N eT
  obtain ⟨T', h', X', eT', E, Ex, D, -, stp⟩ := newO X A.1 A.2.2.1 A.2.2.2.1 w wi wz eT (g := mkF m pc Ls st) rfl (hb A.2.1 hd) hc hl
  have ho : RepO Z a0 n0 h' (h.size, true, .inl (C, fs)) := by
    refine ⟨fun _ => Nat.le_trans Z0 K.1, Ex, fun f hf => ?_, hnd⟩
    obtain ⟨q1, ty, q2, q3⟩ := LayL.mem hfs hf
    exact ⟨by rw [q3]; exact D q1 q2, q1, ty, q2⟩
  obtain ⟨s₂, v2, L2, h1, r2⟩ := nx h.size h' K.1 (Nat.le_refl _) (K.ext E) (Rp.push E ho (Nat.le_refl _)) T' _ X' N eT'
  exact ⟨s₂, v2, L2, stp _ h1, r2⟩
theorem toNat_lit {n : Int32} {k : Nat} (q : n.toInt = k) : n.toNatClampNeg = k := by simp only [Int32.toNatClampNeg, q]; rfl
theorem Goes.newArr (A : Amb bs own mL Z p s m c) {aty : ArrayType} {n : Int32} {k : Nat} (w : (Jvm.Cond.arrayClass (newarray.typeOf aty)).before a0 Z = true) (Rp : Rep Z a0 n0 h G B) (K : Keep hS h ws) (Z0 : n0 ≤ hS.size) (hd : decode bs pc = .ok (.newarray aty, 2)) (hk : n.toInt = k) {cap : Nat} (hcap : k ≤ cap) (hb8 : cap * 8 ≤ 536870912) (hc : cells + 1 ≤ R.cells) (hl : slots + cap ≤ R.slots)
    (nx : ∀ a h', hS.size ≤ a → h.size ≤ a → Keep hS h' ws → Rep Z a0 n0 h' G (B ++ [(a, true, .inr (newarray.typeOf aty, List.replicate k (defaultValue (newarray.typeOf aty))))]) → Goes p l e R s m args below meth c n0 Q h' (cells + 1) (slots + cap) (pc + 2) Ls (.ref a :: st)) : Goes p l e R s m args below meth c n0 Q h cells slots pc Ls (.int n :: st) := by
  intro T locs X N eT
  have hn : ¬ n < 0 := by rw [Int32.lt_iff_toInt_lt, hk]; show ¬ (k : Int) < 0; omega
  obtain ⟨T', h', cA, X', eT', E, Ar, stp⟩ := newP X A.1 A.2.2.1 w eT (g := mkF m pc Ls (.int n :: st)) rfl (hb A.2.1 hd) rfl hn (cap := cap) (by rw [toNat_lit hk]; exact hcap) hb8 hc hl
  have ho : RepO Z a0 n0 h' (h.size, true, .inr (newarray.typeOf aty, List.replicate k (defaultValue (newarray.typeOf aty)))) :=
    ⟨fun _ => Nat.le_trans Z0 K.1, _, Ar, by simp [newA, toNat_lit hk], fun v hv => by rw [(List.mem_replicate.mp hv).2]; cases aty <;> rfl, by show (List.replicate k _).length < 2 ^ 31; rw [List.length_replicate]; omega⟩
  obtain ⟨s₂, v2, L2, h1, r2⟩ := nx h.size h' K.1 (Nat.le_refl _) (K.ext E) (Rp.push E ho (Nat.le_refl _)) T' _ X' N eT'
  exact ⟨s₂, v2, L2, stp _ h1, r2⟩
theorem arr_in2 {vs : List Value} {cl : Cell} {j : Int32} {k : Nat} (e : cl.slots.toList = vs) (hk : j.toInt = k) (hl : k < vs.length) : ¬ (j < 0 ∨ cl.slots.size ≤ j.toNatClampNeg) := by
  rw [toNat_lit hk, ← Array.length_toList, e, Int32.lt_iff_toInt_lt, hk]
  show ¬ ((k : Int) < 0 ∨ _)
  omega
theorem arr_at2 {vs : List Value} {cl : Cell} {j : Int32} {k : Nat} {v : Value} (e : cl.slots.toList = vs) (hk : j.toInt = k) (hv : vs[k]? = some v) : cl.slots[j.toNatClampNeg]? = some v := by
  rw [toNat_lit hk, ← Array.getElem?_toList, e]; exact hv
theorem Goes.iaload (A : Amb bs own mL Z p s m c) {i k : Nat} {a : Addr} {fl : Bool} {j : Int32} {v : Value} {vs : List Value} (Rp : Rep Z a0 n0 h G B) (hi : B[i]? = some (a, fl, .inr (.int, vs))) (hk : j.toInt = k) (hv : vs[k]? = some v) (hd : decode bs pc = .ok (.iaload, 1)) (nx : Goes p l e R s m args below meth c n0 Q h cells slots (pc + 1) Ls (v :: st)) : Goes p l e R s m args below meth c n0 Q h cells slots pc Ls (.int j :: .ref a :: st) := by
  refine Goes.step (fun T locs X eT target q => ?_) nx
  obtain ⟨-, cl, Ar, e, -⟩ := Rp.at hi
  exact X.iaload A.1 (by rw [eT]; exact Ar.1) (State.isArrayOf_alike A.2.2.1.alike Ar.2.1) Ar.2.2 (arr_in2 e hk (List.getElem?_eq_some_iff.mp hv).1) (arr_at2 e hk hv) (g := mkF m pc Ls (.int j :: .ref a :: st)) rfl rfl (hb A.2.1 hd) target q
theorem Goes.baload (A : Amb bs own mL Z p s m c) {i k : Nat} {a : Addr} {fl : Bool} {j : Int32} {v : Value} {vs : List Value} (Rp : Rep Z a0 n0 h G B) (hi : B[i]? = some (a, fl, .inr (.byte, vs))) (hk : j.toInt = k) (hv : vs[k]? = some v) (hd : decode bs pc = .ok (.baload, 1)) (nx : Goes p l e R s m args below meth c n0 Q h cells slots (pc + 1) Ls (v :: st)) : Goes p l e R s m args below meth c n0 Q h cells slots pc Ls (.int j :: .ref a :: st) := by
  refine Goes.step (fun T locs X eT target q => ?_) nx
  obtain ⟨-, cl, Ar, e, -⟩ := Rp.at hi
  exact X.baloadBytes A.1 (by rw [eT]; exact Ar.1) (State.isArrayOf_alike A.2.2.1.alike Ar.2.1) Ar.2.2 (arr_in2 e hk (List.getElem?_eq_some_iff.mp hv).1) (arr_at2 e hk hv) (g := mkF m pc Ls (.int j :: .ref a :: st)) rfl rfl (hb A.2.1 hd) target q
theorem Goes.zaload (A : Amb bs own mL Z p s m c) {i k : Nat} {a : Addr} {fl : Bool} {j : Int32} {v : Value} {vs : List Value} (Rp : Rep Z a0 n0 h G B) (hi : B[i]? = some (a, fl, .inr (.boolean, vs))) (hk : j.toInt = k) (hv : vs[k]? = some v) (hd : decode bs pc = .ok (.baload, 1)) (nx : Goes p l e R s m args below meth c n0 Q h cells slots (pc + 1) Ls (v :: st)) : Goes p l e R s m args below meth c n0 Q h cells slots pc Ls (.int j :: .ref a :: st) := by
  refine Goes.step (fun T locs X eT target q => ?_) nx
  obtain ⟨-, cl, Ar, e, -⟩ := Rp.at hi
  exact X.baloadBooleans A.1 (by rw [eT]; exact Ar.1) (State.isArrayOf_alike A.2.2.1.alike Ar.2.1) Ar.2.2 (arr_in2 e hk (List.getElem?_eq_some_iff.mp hv).1) (arr_at2 e hk hv) (g := mkF m pc Ls (.int j :: .ref a :: st)) rfl rfl (hb A.2.1 hd) target q
theorem Goes.caload (A : Amb bs own mL Z p s m c) {i k : Nat} {a : Addr} {fl : Bool} {j : Int32} {v : Value} {vs : List Value} (Rp : Rep Z a0 n0 h G B) (hi : B[i]? = some (a, fl, .inr (.char, vs))) (hk : j.toInt = k) (hv : vs[k]? = some v) (hd : decode bs pc = .ok (.caload, 1)) (nx : Goes p l e R s m args below meth c n0 Q h cells slots (pc + 1) Ls (v :: st)) : Goes p l e R s m args below meth c n0 Q h cells slots pc Ls (.int j :: .ref a :: st) := by
  refine Goes.step (fun T locs X eT target q => ?_) nx
  obtain ⟨-, cl, Ar, e, -⟩ := Rp.at hi
  exact X.caload A.1 (by rw [eT]; exact Ar.1) (State.isArrayOf_alike A.2.2.1.alike Ar.2.1) Ar.2.2 (arr_in2 e hk (List.getElem?_eq_some_iff.mp hv).1) (arr_at2 e hk hv) (g := mkF m pc Ls (.int j :: .ref a :: st)) rfl rfl (hb A.2.1 hd) target q
theorem Goes.laload (A : Amb bs own mL Z p s m c) {i k : Nat} {a : Addr} {fl : Bool} {j : Int32} {v : Value} {vs : List Value} (Rp : Rep Z a0 n0 h G B) (hi : B[i]? = some (a, fl, .inr (.long, vs))) (hk : j.toInt = k) (hv : vs[k]? = some v) (hd : decode bs pc = .ok (.laload, 1)) (nx : Goes p l e R s m args below meth c n0 Q h cells slots (pc + 1) Ls (v :: st)) : Goes p l e R s m args below meth c n0 Q h cells slots pc Ls (.int j :: .ref a :: st) := by
  refine Goes.step (fun T locs X eT target q => ?_) nx
  obtain ⟨-, cl, Ar, e, -⟩ := Rp.at hi
  exact X.laload A.1 (by rw [eT]; exact Ar.1) (State.isArrayOf_alike A.2.2.1.alike Ar.2.1) Ar.2.2 (arr_in2 e hk (List.getElem?_eq_some_iff.mp hv).1) (arr_at2 e hk hv) (g := mkF m pc Ls (.int j :: .ref a :: st)) rfl rfl (hb A.2.1 hd) target q
theorem Goes.aaload (A : Amb bs own mL Z p s m c) {i k : Nat} {a : Addr} {fl : Bool} {j : Int32} {v : Value} {vs : List Value} {ty : FieldType} (Rp : Rep Z a0 n0 h G B) (hi : B[i]? = some (a, fl, .inr (ty, vs))) (hty : ty.isReference = true) (hk : j.toInt = k) (hv : vs[k]? = some v) (hd : decode bs pc = .ok (.aaload, 1)) (nx : Goes p l e R s m args below meth c n0 Q h cells slots (pc + 1) Ls (v :: st)) : Goes p l e R s m args below meth c n0 Q h cells slots pc Ls (.int j :: .ref a :: st) := by
  refine Goes.step (fun T locs X eT target q => ?_) nx
  obtain ⟨-, cl, Ar, e, -⟩ := Rp.at hi
  exact X.aaload A.1 (by rw [eT]; exact Ar.1) (State.isArrayOf_alike A.2.2.1.alike Ar.2.1) hty Ar.2.2 (arr_in2 e hk (List.getElem?_eq_some_iff.mp hv).1) (arr_at2 e hk hv) (g := mkF m pc Ls (.int j :: .ref a :: st)) rfl rfl (hb A.2.1 hd) target q
theorem Goes.iastore (A : Amb bs own mL Z p s m c) {i k : Nat} {a : Addr} {j : Int32} {x : Int32} {vs : List Value} (Rp : Rep Z a0 n0 h G B) (K : Keep hS h ws) (hi : B[i]? = some (a, true, .inr (.int, vs))) (ka : a ∈ ws ∨ hS.size ≤ a) (hk : j.toInt = k) (hl : k < vs.length) (hd : decode bs pc = .ok (.iastore, 1))
    (nx : ∀ h', Keep hS h' ws → Rep Z a0 n0 h' G (B.set i (a, true, .inr (.int, vs.set k (.int x)))) → Goes p l e R s m args below meth c n0 Q h' cells slots (pc + 1) Ls st) : Goes p l e R s m args below meth c n0 Q h cells slots pc Ls (.int x :: .int j :: .ref a :: st) := by
  intro T locs X N eT
  obtain ⟨-, cl, Ar, e, -⟩ := Rp.at hi
  obtain ⟨T', h', X', eT', W, stp⟩ := stI X A.1 A.2.2.1 eT Ar (arr_in2 e hk hl) (g := mkF m pc Ls (.int x :: .int j :: .ref a :: st)) rfl rfl (hb A.2.1 hd)
  rw [toNat_lit hk] at W X'
  obtain ⟨s₂, v2, L2, h1, r2⟩ := nx h' (K.wr W ka) (Rp.set hi (Keep.of_wr W) ((Rp.at hi).aset (rfl) W) rfl) T' _ X' (N.app fun y hy => by cases List.mem_singleton.mp hy; exact Rp.low hi) eT'
  exact ⟨s₂, v2, L2, stp _ h1, r2⟩
theorem Goes.bastore (A : Amb bs own mL Z p s m c) {i k : Nat} {a : Addr} {j : Int32} {x : Int32} {vs : List Value} (Rp : Rep Z a0 n0 h G B) (K : Keep hS h ws) (hi : B[i]? = some (a, true, .inr (.byte, vs))) (ka : a ∈ ws ∨ hS.size ≤ a) (hk : j.toInt = k) (hl : k < vs.length) (hd : decode bs pc = .ok (.bastore, 1))
    (nx : ∀ h', Keep hS h' ws → Rep Z a0 n0 h' G (B.set i (a, true, .inr (.byte, vs.set k (.int (nar .byte x))))) → Goes p l e R s m args below meth c n0 Q h' cells slots (pc + 1) Ls st) : Goes p l e R s m args below meth c n0 Q h cells slots pc Ls (.int x :: .int j :: .ref a :: st) := by
  intro T locs X N eT
  obtain ⟨-, cl, Ar, e, -⟩ := Rp.at hi
  obtain ⟨T', h', X', eT', W, stp⟩ := stB X A.1 A.2.2.1 eT Ar (arr_in2 e hk hl) (g := mkF m pc Ls (.int x :: .int j :: .ref a :: st)) rfl rfl (hb A.2.1 hd)
  rw [toNat_lit hk] at W X'
  obtain ⟨s₂, v2, L2, h1, r2⟩ := nx h' (K.wr W ka) (Rp.set hi (Keep.of_wr W) ((Rp.at hi).aset (fits_nar_byte x) W) rfl) T' _ X' (N.app fun y hy => by cases List.mem_singleton.mp hy; exact Rp.low hi) eT'
  exact ⟨s₂, v2, L2, stp _ h1, r2⟩
theorem Goes.zastore (A : Amb bs own mL Z p s m c) {i k : Nat} {a : Addr} {j : Int32} {x : Int32} {vs : List Value} (Rp : Rep Z a0 n0 h G B) (K : Keep hS h ws) (hi : B[i]? = some (a, true, .inr (.boolean, vs))) (ka : a ∈ ws ∨ hS.size ≤ a) (hk : j.toInt = k) (hl : k < vs.length) (hd : decode bs pc = .ok (.bastore, 1))
    (nx : ∀ h', Keep hS h' ws → Rep Z a0 n0 h' G (B.set i (a, true, .inr (.boolean, vs.set k (.int (nar .boolean x))))) → Goes p l e R s m args below meth c n0 Q h' cells slots (pc + 1) Ls st) : Goes p l e R s m args below meth c n0 Q h cells slots pc Ls (.int x :: .int j :: .ref a :: st) := by
  intro T locs X N eT
  obtain ⟨-, cl, Ar, e, -⟩ := Rp.at hi
  obtain ⟨T', h', X', eT', W, stp⟩ := stZ X A.1 A.2.2.1 eT Ar (arr_in2 e hk hl) (g := mkF m pc Ls (.int x :: .int j :: .ref a :: st)) rfl rfl (hb A.2.1 hd)
  rw [toNat_lit hk] at W X'
  obtain ⟨s₂, v2, L2, h1, r2⟩ := nx h' (K.wr W ka) (Rp.set hi (Keep.of_wr W) ((Rp.at hi).aset (fits_nar_bool x) W) rfl) T' _ X' (N.app fun y hy => by cases List.mem_singleton.mp hy; exact Rp.low hi) eT'
  exact ⟨s₂, v2, L2, stp _ h1, r2⟩
theorem Goes.lastore (A : Amb bs own mL Z p s m c) {i k : Nat} {a : Addr} {j : Int32} {x : Int64} {vs : List Value} (Rp : Rep Z a0 n0 h G B) (K : Keep hS h ws) (hi : B[i]? = some (a, true, .inr (.long, vs))) (ka : a ∈ ws ∨ hS.size ≤ a) (hk : j.toInt = k) (hl : k < vs.length) (hd : decode bs pc = .ok (.lastore, 1))
    (nx : ∀ h', Keep hS h' ws → Rep Z a0 n0 h' G (B.set i (a, true, .inr (.long, vs.set k (.long x)))) → Goes p l e R s m args below meth c n0 Q h' cells slots (pc + 1) Ls st) : Goes p l e R s m args below meth c n0 Q h cells slots pc Ls (.long x :: .int j :: .ref a :: st) := by
  intro T locs X N eT
  obtain ⟨-, cl, Ar, e, -⟩ := Rp.at hi
  obtain ⟨T', h', X', eT', W, stp⟩ := stJ X A.1 A.2.2.1 eT Ar (arr_in2 e hk hl) (g := mkF m pc Ls (.long x :: .int j :: .ref a :: st)) rfl rfl (hb A.2.1 hd)
  rw [toNat_lit hk] at W X'
  obtain ⟨s₂, v2, L2, h1, r2⟩ := nx h' (K.wr W ka) (Rp.set hi (Keep.of_wr W) ((Rp.at hi).aset (rfl) W) rfl) T' _ X' (N.app fun y hy => by cases List.mem_singleton.mp hy; exact Rp.low hi) eT'
  exact ⟨s₂, v2, L2, stp _ h1, r2⟩
theorem Goes.castore (A : Amb bs own mL Z p s m c) {i k : Nat} {a : Addr} {j : Int32} {x : Int32} {vs : List Value} (Rp : Rep Z a0 n0 h G B) (K : Keep hS h ws) (hi : B[i]? = some (a, true, .inr (.char, vs))) (ka : a ∈ ws ∨ hS.size ≤ a) (hk : j.toInt = k) (hl : k < vs.length) (hd : decode bs pc = .ok (.castore, 1))
    (nx : ∀ h', Keep hS h' ws → Rep Z a0 n0 h' G (B.set i (a, true, .inr (.char, vs.set k (.int (nar .char x))))) → Goes p l e R s m args below meth c n0 Q h' cells slots (pc + 1) Ls st) : Goes p l e R s m args below meth c n0 Q h cells slots pc Ls (.int x :: .int j :: .ref a :: st) := by
  intro T locs X N eT
  obtain ⟨-, cl, Ar, e, -⟩ := Rp.at hi
  obtain ⟨T', h', X', eT', W, stp⟩ := stC X A.1 A.2.2.1 eT Ar (arr_in2 e hk hl) (g := mkF m pc Ls (.int x :: .int j :: .ref a :: st)) rfl rfl (hb A.2.1 hd)
  rw [toNat_lit hk] at W X'
  obtain ⟨s₂, v2, L2, h1, r2⟩ := nx h' (K.wr W ka) (Rp.set hi (Keep.of_wr W) ((Rp.at hi).aset (fits_nar_char x) W) rfl) T' _ X' (N.app fun y hy => by cases List.mem_singleton.mp hy; exact Rp.low hi) eT'
  exact ⟨s₂, v2, L2, stp _ h1, r2⟩
theorem Goes.alen (A : Amb bs own mL Z p s m c) {i : Nat} {a : Addr} {fl : Bool} {vs : List Value} {ty : FieldType} {z : Int32} (Rp : Rep Z a0 n0 h G B) (hi : B[i]? = some (a, fl, .inr (ty, vs))) (hz : vs.length.toInt32 = z) (hd : decode bs pc = .ok (.arraylength, 1)) (nx : Goes p l e R s m args below meth c n0 Q h cells slots (pc + 1) Ls (.int z :: st)) : Goes p l e R s m args below meth c n0 Q h cells slots pc Ls (.ref a :: st) := by
  refine Goes.step (fun T locs X eT target q => ?_) nx
  obtain ⟨-, cl, Ar, e, -⟩ := Rp.at hi
  subst hz
  refine X.arraylength A.1 (by rw [eT]; exact Ar.1) (State.isArrayOf_alike A.2.2.1.alike Ar.2.1) (g := mkF m pc Ls (.ref a :: st)) rfl rfl (hb A.2.1 hd) target ?_
  have e3 : cl.slots.toList = vs := e
  have e2 : cl.slots.size = vs.length := by rw [← e3, Array.length_toList]
  rw [e2]
  exact q
theorem Goes.initO (A : Amb bs own mL Z p s m c) {idx : Nat} {a : Addr} {W : Nat} (w1 : (Jvm.Cond.methodLink own idx Lib.objectInit).before a0 Z = true) (w2 : (Jvm.Cond.instanceMethod Lib.objectInit).before a0 Z = true) (w3 : (Jvm.Cond.code Lib.objectInit ⟨#[0xb1]⟩ 1 none).before a0 Z = true) (hd : decode bs pc = .ok (.invokespecial idx, 3)) (hsz : Ls.size = mL) (hW : (st.map fun v => v.category).sum ≤ W) (hf : 1 ≤ R.frames) (hlo : W + 12 ≤ R.locals) (nx : Goes p l e R s m args below meth c n0 Q h cells slots (pc + 3) Ls st) : Goes p l e R s m args below meth c n0 Q h cells slots pc Ls (.ref a :: st) :=
  Goes.stay (fun T locs X eT => Jvm.RoadKit.initO (g := mkF m pc Ls (.ref a :: st)) X A.1 A.2.2.1 A.2.2.2.1 w1 w2 w3 eT rfl (by rw [A.2.2.2.2]; exact hsz) rfl (hb A.2.1 hd) hf (W := W) (by show 2 * 0 + _ ≤ _; omega) hlo) nx
theorem RepO.arv {a : Addr} {fl : Bool} {ty : FieldType} {vs : List Value} {d : Value} (F : RepO Z a0 n0 h (a, fl, .inr (ty, vs))) : ∃ k, Arv Z h a k ty vs.length.toInt32 vs d := by
  obtain ⟨-, cl, Ar, e, hf, hl⟩ := F
  have e3 : cl.slots.toList = vs := e
  have e2 : cl.slots.size = vs.length := by rw [← e3, Array.length_toList]
  have q : vs.length.toInt32.toInt = vs.length := len_toInt hl
  refine ⟨cl.cls, cl, Ar, rfl, by rw [e2, toNat_lit q], by rw [Int32.lt_iff_toInt_lt, q]; show ¬ (vs.length : Int) < 0; omega, fun i hi => ?_, fun i hi => ?_⟩
  · rw [e2] at hi
    rw [← Array.getElem?_toList, e, List.getD_eq_getElem?_getD, List.getElem?_eq_getElem hi]; rfl
  · rw [e2] at hi
    rw [List.getD_eq_getElem?_getD, List.getElem?_eq_getElem hi]
    exact hf _ (List.getElem_mem hi)
theorem RepO.of_arv {a : Addr} {fl : Bool} {ty : FieldType} {vs : List Value} {d : Value} {k : ClassId} {z : Int32} (q0 : fl = true → n0 ≤ a) (F : Arv Z h a k ty z vs d) (hl : vs.length = z.toNatClampNeg) (hb : vs.length < 2 ^ 31) : RepO Z a0 n0 h (a, fl, .inr (ty, vs)) := by
  obtain ⟨cl, Ar, -, e1, -, H, F2⟩ := F
  have e2 : cl.slots.size = vs.length := by rw [e1, hl]
  refine ⟨q0, cl, Ar, List.ext_getElem? fun i => ?_, fun v hv => ?_, hb⟩
  · show cl.slots.toList[i]? = vs[i]?
    by_cases hi : i < vs.length
    · rw [Array.getElem?_toList, H i (by rw [e2]; exact hi), List.getD_eq_getElem?_getD, List.getElem?_eq_getElem hi]; rfl
    · rw [List.getElem?_eq_none (Nat.le_of_not_lt hi), Array.getElem?_toList, Array.getElem?_eq_none (by rw [e2]; exact Nat.le_of_not_lt hi)]
  · obtain ⟨i, hi⟩ := List.mem_iff_getElem?.mp hv
    obtain ⟨hl2, rfl⟩ := List.getElem?_eq_some_iff.mp hi
    have := F2 i (by rw [e2]; exact hl2)
    rw [List.getD_eq_getElem?_getD, hi] at this
    exact this
theorem Goes.acopy (A : Amb bs own mL Z p s m c) {index i j k1 k2 k3 : Nat} {a b : Addr} {fl : Bool} {ty : FieldType} {sp dp nn : Int32} {vs vd us : List Value} {W : Nat}
    (w1 : (Jvm.Cond.methodLink own index Jvm.Stand.acN).before a0 Z = true) (w2 : (Jvm.Cond.native Jvm.Stand.acN).before a0 Z = true) (w3 : (Jvm.Cond.static Jvm.Stand.acN).before a0 Z = true) (w4 : (Jvm.Cond.initialized "java/lang/System").before a0 Z = true)
    (Rp : Rep Z a0 n0 h G B) (K : Keep hS h ws) (hi : B[i]? = some (a, fl, .inr (ty, vs))) (hj : B[j]? = some (b, true, .inr (ty, vd))) (ka : b ∈ ws ∨ hS.size ≤ b) (hty : refKind ty = false)
    (h1 : sp.toInt = k1) (h2 : dp.toInt = k2) (h3 : nn.toInt = k3) (h4 : k1 + k3 ≤ vs.length) (h5 : k2 + k3 ≤ vd.length) (hus : us = (List.range k3).map fun i => vs.getD (k1 + i) (.int 0)) (hd : decode bs pc = .ok (.invokestatic index, 3)) (hsz : Ls.size = mL) (hW : (st.map fun v => v.category).sum ≤ W) (hf : 1 ≤ R.frames) (hlo : W + (nativeFrameWords "java/lang/System" "arraycopy" 5 + 11) ≤ R.locals)
    (nx : ∀ h', Keep hS h' ws → Rep Z a0 n0 h' G (B.set j (b, true, .inr (ty, vd.take k2 ++ us ++ vd.drop (k2 + k3)))) → Goes p l e R s m args below meth c n0 Q h' cells slots (pc + 3) Ls st) : Goes p l e R s m args below meth c n0 Q h cells slots pc Ls (.int nn :: .int dp :: .ref b :: .int sp :: .ref a :: st) := by
  intro T locs X N eT
  obtain ⟨kA, VA⟩ := (Rp.at hi).arv (d := .int 0)
  obtain ⟨kB, VB⟩ := (Rp.at hj).arv (d := .int 0)
  have la : vs.length < 2 ^ 31 := (Rp.at hi).2.choose_spec.2.2.2
  have lb : vd.length < 2 ^ 31 := (Rp.at hj).2.choose_spec.2.2.2
  have n1 : ¬ sp < 0 := by rw [Int32.lt_iff_toInt_lt, h1]; show ¬ (k1 : Int) < 0; omega
  have n2 : ¬ dp < 0 := by rw [Int32.lt_iff_toInt_lt, h2]; show ¬ (k2 : Int) < 0; omega
  have n3 : ¬ nn < 0 := by rw [Int32.lt_iff_toInt_lt, h3]; show ¬ (k3 : Int) < 0; omega
  obtain ⟨T', h', L, X', eT', N', Kc, V', stp⟩ := cpA X A.1 A.2.2.1 A.2.2.2.1 w1 w2 w3 w4 eT VA VB (us := us) (Or.inl ⟨rfl, hty⟩) n1 n2 n3 (by rw [toNat_lit h1, toNat_lit h3, toNat_lit (len_toInt la)]; exact h4) (by rw [toNat_lit h2, toNat_lit h3, toNat_lit (len_toInt lb)]; exact h5) (by rw [toNat_lit h1, toNat_lit h3]; exact hus) (by rw [toNat_lit h2, toNat_lit h3]; exact h5) N (Rp.low hj) (g := mkF m pc Ls (.int nn :: .int dp :: .ref b :: .int sp :: .ref a :: st)) rfl (by rw [A.2.2.2.2]; exact hsz) rfl (hb A.2.1 hd) hf (W := W) (by show 2 * 0 + _ ≤ _; omega) hlo
  rw [toNat_lit h2, toNat_lit h3] at V'
  have lu : us.length = k3 := by rw [hus]; simp
  have lv : (vd.take k2 ++ us ++ vd.drop (k2 + k3)).length = vd.length := by simp only [List.length_append, List.length_take, List.length_drop, lu]; omega
  have ho : RepO Z a0 n0 h' (b, true, .inr (ty, vd.take k2 ++ us ++ vd.drop (k2 + k3))) := RepO.of_arv (fun _ => Rp.low hj) V' (by rw [toNat_lit (len_toInt lb)]; exact lv) (by rw [lv]; exact lb)
  obtain ⟨s₂, v2, L2, g1, r2⟩ := nx h' (K.trans Kc (alS ka al0)) (Rp.set hj Kc ho rfl) T' L X' N' eT'
  exact ⟨s₂, v2, L2, stp _ g1, r2⟩
end Own3
theorem b5_0_3 : decL jdk_92_method_1_code [(.iload_n 0, 1), (.bipush 6, 2), (.ishr, 1)] 0 = true := by decide +kernel
theorem d5_4 : decode jdk_92_method_1_code 4 = .ok (.ireturn, 1) := by decide +kernel
theorem ef5_i (x0 : Int32) (m : MethodId) : entryFrame m #[(.int x0)] 1 = mkF m 0 #[.val (.int x0)] [] := by first | (simp [entryFrame, mkF, argsToLocals, Value.category]; done) | rfl
theorem pn_java_util_BitSet : plainName "java/util/BitSet" = true := by first | (simp [plainName, overriddenIn]; done) | decide +kernel
theorem b4_0_4 : decL jdk_92_method_6_code [(.aload_n 0, 1), (.iload_n 1, 1), (.iconst 1, 1), (.isub, 1)] 0 = true := by decide +kernel
theorem pd_727763 : parseMethodDescriptor "(I)I" = some ⟨[.int], some .int⟩ := by decide +kernel
theorem d4_4 : decode jdk_92_method_6_code 4 = .ok (.invokestatic 52, 3) := by decide +kernel
theorem b4_7_2 : decL jdk_92_method_6_code [(.iconst 1, 1), (.iadd, 1)] 7 = true := by decide +kernel
theorem d4_9 : decode jdk_92_method_6_code 9 = .ok (.newarray .long, 2) := by decide +kernel
theorem d4_11 : decode jdk_92_method_6_code 11 = .ok (.putfield 11, 3) := by decide +kernel
theorem d4_14 : decode jdk_92_method_6_code 14 = .ok (.return_, 1) := by decide +kernel
theorem ef4_ri (x0 : Addr) (x1 : Int32) (m : MethodId) : entryFrame m #[(.ref x0), (.int x1)] 2 = mkF m 0 #[.val (.ref x0), .val (.int x1)] [] := by first | (simp [entryFrame, mkF, argsToLocals, Value.category]; done) | rfl
theorem b3_0_1 : decL jdk_92_method_4_code [(.aload_n 0, 1)] 0 = true := by decide +kernel
theorem d3_1 : decode jdk_92_method_4_code 1 = .ok (.invokespecial 21, 3) := by decide +kernel
theorem b3_4_2 : decL jdk_92_method_4_code [(.aload_n 0, 1), (.iconst 0, 1)] 4 = true := by decide +kernel
theorem d3_6 : decode jdk_92_method_4_code 6 = .ok (.putfield 7, 3) := by decide +kernel
theorem b3_9_2 : decL jdk_92_method_4_code [(.aload_n 0, 1), (.iconst 0, 1)] 9 = true := by decide +kernel
theorem d3_11 : decode jdk_92_method_4_code 11 = .ok (.putfield 24, 3) := by decide +kernel
theorem b3_14_2 : decL jdk_92_method_4_code [(.aload_n 0, 1), (.bipush 64, 2)] 14 = true := by decide +kernel
theorem pd_727776 : parseMethodDescriptor "(I)V" = some ⟨[.int], none⟩ := by decide +kernel
theorem d3_17 : decode jdk_92_method_4_code 17 = .ok (.invokevirtual 27, 3) := by decide +kernel
theorem b3_20_2 : decL jdk_92_method_4_code [(.aload_n 0, 1), (.iconst 0, 1)] 20 = true := by decide +kernel
theorem d3_22 : decode jdk_92_method_4_code 22 = .ok (.putfield 24, 3) := by decide +kernel
theorem d3_25 : decode jdk_92_method_4_code 25 = .ok (.return_, 1) := by decide +kernel
theorem ef3_r (x0 : Addr) (m : MethodId) : entryFrame m #[(.ref x0)] 1 = mkF m 0 #[.val (.ref x0)] [] := by first | (simp [entryFrame, mkF, argsToLocals, Value.category]; done) | rfl
theorem b7_0_2 : decL jdk_29_method_69_code [(.iload_n 0, 1), (.iload_n 1, 1)] 0 = true := by decide +kernel
theorem d7_2 : decode jdk_29_method_69_code 2 = .ok (.if_icmp .gt 7, 3) := by decide +kernel
theorem b7_9_1 : decL jdk_29_method_69_code [(.iload_n 1, 1)] 9 = true := by decide +kernel
theorem d7_10 : decode jdk_29_method_69_code 10 = .ok (.ireturn, 1) := by decide +kernel
theorem ef7_ii (x0 : Int32) (x1 : Int32) (m : MethodId) : entryFrame m #[(.int x0), (.int x1)] 2 = mkF m 0 #[.val (.int x0), .val (.int x1)] [] := by first | (simp [entryFrame, mkF, argsToLocals, Value.category]; done) | rfl
theorem pf_7 : plainFor (⟨"java/lang/Math", "min", "(II)I"⟩ : MethodName) = true := by decide +kernel
theorem b6_0_2 : decL jdk_65_method_123_code [(.iload_n 1, 1), (.aload_n 0, 1)] 0 = true := by decide +kernel
theorem d6_2 : decode jdk_65_method_123_code 2 = .ok (.arraylength, 1) := by decide +kernel
theorem d6_3 : decode jdk_65_method_123_code 3 = .ok (.if_icmp .ne 11, 3) := by decide +kernel
theorem b6_14_1 : decL jdk_65_method_123_code [(.iload_n 1, 1)] 14 = true := by decide +kernel
theorem d6_15 : decode jdk_65_method_123_code 15 = .ok (.newarray .int, 2) := by decide +kernel
theorem b6_17_6 : decL jdk_65_method_123_code [(.astore_n 2, 1), (.aload_n 0, 1), (.iconst 0, 1), (.aload_n 2, 1), (.iconst 0, 1), (.aload_n 0, 1)] 17 = true := by decide +kernel
theorem d6_23 : decode jdk_65_method_123_code 23 = .ok (.arraylength, 1) := by decide +kernel
theorem b6_24_1 : decL jdk_65_method_123_code [(.iload_n 1, 1)] 24 = true := by decide +kernel
theorem pd_590420 : parseMethodDescriptor "(II)I" = some ⟨[.int, .int], some .int⟩ := by decide +kernel
theorem d6_25 : decode jdk_65_method_123_code 25 = .ok (.invokestatic 304, 3) := by decide +kernel
theorem d6_28 : decode jdk_65_method_123_code 28 = .ok (.invokestatic 150, 3) := by decide +kernel
theorem b6_31_1 : decL jdk_65_method_123_code [(.aload_n 2, 1)] 31 = true := by decide +kernel
theorem d6_32 : decode jdk_65_method_123_code 32 = .ok (.areturn, 1) := by decide +kernel
theorem ef6_ri (x0 : Addr) (x1 : Int32) (m : MethodId) : entryFrame m #[(.ref x0), (.int x1)] 3 = mkF m 0 #[.val (.ref x0), .val (.int x1), .unset] [] := by first | (simp [entryFrame, mkF, argsToLocals, Value.category]; done) | rfl
theorem pn_java_util_Arrays : plainName "java/util/Arrays" = true := by first | (simp [plainName, overriddenIn]; done) | decide +kernel
theorem b9_0_1 : decL jdk_92_method_16_code [(.iload_n 0, 1)] 0 = true := by decide +kernel
theorem d9_1 : decode jdk_92_method_16_code 1 = .ok (.ifCond .ge 30, 3) := by decide +kernel
theorem b9_31_1 : decL jdk_92_method_16_code [(.iload_n 1, 1)] 31 = true := by decide +kernel
theorem d9_32 : decode jdk_92_method_16_code 32 = .ok (.ifCond .ge 30, 3) := by decide +kernel
theorem b9_62_2 : decL jdk_92_method_16_code [(.iload_n 0, 1), (.iload_n 1, 1)] 62 = true := by decide +kernel
theorem d9_64 : decode jdk_92_method_16_code 64 = .ok (.if_icmp .le 39, 3) := by decide +kernel
theorem d9_103 : decode jdk_92_method_16_code 103 = .ok (.return_, 1) := by decide +kernel
theorem ef9_ii (x0 : Int32) (x1 : Int32) (m : MethodId) : entryFrame m #[(.int x0), (.int x1)] 2 = mkF m 0 #[.val (.int x0), .val (.int x1)] [] := by first | (simp [entryFrame, mkF, argsToLocals, Value.category]; done) | rfl
theorem b11_0_1 : decL jdk_92_method_14_code [(.aload_n 0, 1)] 0 = true := by decide +kernel
theorem d11_1 : decode jdk_92_method_14_code 1 = .ok (.getfield 11, 3) := by decide +kernel
theorem d11_4 : decode jdk_92_method_14_code 4 = .ok (.arraylength, 1) := by decide +kernel
theorem b11_5_1 : decL jdk_92_method_14_code [(.iload_n 1, 1)] 5 = true := by decide +kernel
theorem d11_6 : decode jdk_92_method_14_code 6 = .ok (.if_icmp .ge 32, 3) := by decide +kernel
theorem d11_38 : decode jdk_92_method_14_code 38 = .ok (.return_, 1) := by decide +kernel
theorem ef11_ri (x0 : Addr) (x1 : Int32) (m : MethodId) : entryFrame m #[(.ref x0), (.int x1)] 3 = mkF m 0 #[.val (.ref x0), .val (.int x1), .unset] [] := by first | (simp [entryFrame, mkF, argsToLocals, Value.category]; done) | rfl
theorem b10_0_5 : decL jdk_92_method_15_code [(.iload_n 1, 1), (.iconst 1, 1), (.iadd, 1), (.istore_n 2, 1), (.aload_n 0, 1)] 0 = true := by decide +kernel
theorem d10_5 : decode jdk_92_method_15_code 5 = .ok (.getfield 7, 3) := by decide +kernel
theorem b10_8_1 : decL jdk_92_method_15_code [(.iload_n 2, 1)] 8 = true := by decide +kernel
theorem d10_9 : decode jdk_92_method_15_code 9 = .ok (.if_icmp .ge 13, 3) := by decide +kernel
theorem b10_12_2 : decL jdk_92_method_15_code [(.aload_n 0, 1), (.iload_n 2, 1)] 12 = true := by decide +kernel
theorem d10_14 : decode jdk_92_method_15_code 14 = .ok (.invokevirtual 139, 3) := by decide +kernel
theorem b10_17_2 : decL jdk_92_method_15_code [(.aload_n 0, 1), (.iload_n 2, 1)] 17 = true := by decide +kernel
theorem d10_19 : decode jdk_92_method_15_code 19 = .ok (.putfield 7, 3) := by decide +kernel
theorem d10_22 : decode jdk_92_method_15_code 22 = .ok (.return_, 1) := by decide +kernel
theorem ef10_ri (x0 : Addr) (x1 : Int32) (m : MethodId) : entryFrame m #[(.ref x0), (.int x1)] 3 = mkF m 0 #[.val (.ref x0), .val (.int x1), .unset] [] := by first | (simp [entryFrame, mkF, argsToLocals, Value.category]; done) | rfl
theorem d12_0 : decode jdk_92_method_2_code 0 = .ok (.getstatic 3, 3) := by decide +kernel
theorem d12_3 : decode jdk_92_method_2_code 3 = .ok (.ifCond .ne 34, 3) := by decide +kernel
theorem d12_37 : decode jdk_92_method_2_code 37 = .ok (.getstatic 3, 3) := by decide +kernel
theorem d12_40 : decode jdk_92_method_2_code 40 = .ok (.ifCond .ne 30, 3) := by decide +kernel
theorem d12_70 : decode jdk_92_method_2_code 70 = .ok (.getstatic 3, 3) := by decide +kernel
theorem d12_73 : decode jdk_92_method_2_code 73 = .ok (.ifCond .ne 37, 3) := by decide +kernel
theorem d12_110 : decode jdk_92_method_2_code 110 = .ok (.return_, 1) := by decide +kernel
theorem ef12_r (x0 : Addr) (m : MethodId) : entryFrame m #[(.ref x0)] 1 = mkF m 0 #[.val (.ref x0)] [] := by first | (simp [entryFrame, mkF, argsToLocals, Value.category]; done) | rfl
theorem b8_0_2 : decL jdk_92_method_21_code [(.iload_n 1, 1), (.iload_n 2, 1)] 0 = true := by decide +kernel
theorem pd_590433 : parseMethodDescriptor "(II)V" = some ⟨[.int, .int], none⟩ := by decide +kernel
theorem d8_2 : decode jdk_92_method_21_code 2 = .ok (.invokestatic 161, 3) := by decide +kernel
theorem b8_5_2 : decL jdk_92_method_21_code [(.iload_n 1, 1), (.iload_n 2, 1)] 5 = true := by decide +kernel
theorem d8_7 : decode jdk_92_method_21_code 7 = .ok (.if_icmp .ne 4, 3) := by decide +kernel
theorem d8_10 : decode jdk_92_method_21_code 10 = .ok (.return_, 1) := by decide +kernel
theorem ef8_rii (x0 : Addr) (x1 : Int32) (x2 : Int32) (m : MethodId) : entryFrame m #[(.ref x0), (.int x1), (.int x2)] 10 = mkF m 0 #[.val (.ref x0), .val (.int x1), .val (.int x2), .unset, .unset, .unset, .unset, .unset, .unset, .unset] [] := by first | (simp [entryFrame, mkF, argsToLocals, Value.category]; done) | rfl
theorem b8_11_1 : decL jdk_92_method_21_code [(.iload_n 1, 1)] 11 = true := by decide +kernel
theorem d8_12 : decode jdk_92_method_21_code 12 = .ok (.invokestatic 52, 3) := by decide +kernel
theorem b8_15_4 : decL jdk_92_method_21_code [(.istore_n 3, 1), (.iload_n 2, 1), (.iconst 1, 1), (.isub, 1)] 15 = true := by decide +kernel
theorem d8_19 : decode jdk_92_method_21_code 19 = .ok (.invokestatic 52, 3) := by decide +kernel
theorem b8_22_3 : decL jdk_92_method_21_code [(.istore 4, 2), (.aload_n 0, 1), (.iload 4, 2)] 22 = true := by decide +kernel
theorem d8_27 : decode jdk_92_method_21_code 27 = .ok (.invokevirtual 155, 3) := by decide +kernel
theorem d8_30 : decode jdk_92_method_21_code 30 = .ok (.ldc2_w 165, 3) := by decide +kernel
theorem b8_33_3 : decL jdk_92_method_21_code [(.iload_n 1, 1), (.lshl, 1), (.lstore 5, 2)] 33 = true := by decide +kernel
theorem d8_37 : decode jdk_92_method_21_code 37 = .ok (.ldc2_w 165, 3) := by decide +kernel
theorem b8_40_6 : decL jdk_92_method_21_code [(.iload_n 2, 1), (.ineg, 1), (.lushr, 1), (.lstore 7, 2), (.iload_n 3, 1), (.iload 4, 2)] 40 = true := by decide +kernel
theorem d8_48 : decode jdk_92_method_21_code 48 = .ok (.if_icmp .ne 20, 3) := by decide +kernel
theorem b8_51_1 : decL jdk_92_method_21_code [(.aload_n 0, 1)] 51 = true := by decide +kernel
theorem d8_52 : decode jdk_92_method_21_code 52 = .ok (.getfield 11, 3) := by decide +kernel
theorem b8_55_2 : decL jdk_92_method_21_code [(.iload_n 3, 1), (.dup2, 1)] 55 = true := by decide +kernel
theorem d8_57 : decode jdk_92_method_21_code 57 = .ok (.laload, 1) := by decide +kernel
theorem b8_58_4 : decL jdk_92_method_21_code [(.lload 5, 2), (.lload 7, 2), (.land, 1), (.lor, 1)] 58 = true := by decide +kernel
theorem d8_64 : decode jdk_92_method_21_code 64 = .ok (.lastore, 1) := by decide +kernel
theorem d8_65 : decode jdk_92_method_21_code 65 = .ok (.goto 54, 3) := by decide +kernel
theorem b8_119_1 : decL jdk_92_method_21_code [(.aload_n 0, 1)] 119 = true := by decide +kernel
theorem pd_248334 : parseMethodDescriptor "()V" = some ⟨[], none⟩ := by decide +kernel
theorem d8_120 : decode jdk_92_method_21_code 120 = .ok (.invokevirtual 56, 3) := by decide +kernel
theorem d8_123 : decode jdk_92_method_21_code 123 = .ok (.return_, 1) := by decide +kernel
theorem b17_0_1 : decL jdk_92_method_3_code [(.aload_n 0, 1)] 0 = true := by decide +kernel
theorem d17_1 : decode jdk_92_method_3_code 1 = .ok (.getfield 7, 3) := by decide +kernel
theorem b17_4_4 : decL jdk_92_method_3_code [(.iconst 1, 1), (.isub, 1), (.istore_n 1, 1), (.iload_n 1, 1)] 4 = true := by decide +kernel
theorem d17_8 : decode jdk_92_method_3_code 8 = .ok (.ifCond .lt 23, 3) := by decide +kernel
theorem b17_11_1 : decL jdk_92_method_3_code [(.aload_n 0, 1)] 11 = true := by decide +kernel
theorem d17_12 : decode jdk_92_method_3_code 12 = .ok (.getfield 11, 3) := by decide +kernel
theorem b17_15_1 : decL jdk_92_method_3_code [(.iload_n 1, 1)] 15 = true := by decide +kernel
theorem d17_16 : decode jdk_92_method_3_code 16 = .ok (.laload, 1) := by decide +kernel
theorem b17_17_2 : decL jdk_92_method_3_code [(.lconst 0, 1), (.lcmp, 1)] 17 = true := by decide +kernel
theorem d17_19 : decode jdk_92_method_3_code 19 = .ok (.ifCond .eq 6, 3) := by decide +kernel
theorem b17_25_1 : decL jdk_92_method_3_code [(.iinc 1 (-1), 3)] 25 = true := by decide +kernel
theorem d17_28 : decode jdk_92_method_3_code 28 = .ok (.goto (-21), 3) := by decide +kernel
theorem b17_7_1 : decL jdk_92_method_3_code [(.iload_n 1, 1)] 7 = true := by decide +kernel
theorem b17_31_4 : decL jdk_92_method_3_code [(.aload_n 0, 1), (.iload_n 1, 1), (.iconst 1, 1), (.iadd, 1)] 31 = true := by decide +kernel
theorem d17_35 : decode jdk_92_method_3_code 35 = .ok (.putfield 7, 3) := by decide +kernel
theorem d17_38 : decode jdk_92_method_3_code 38 = .ok (.return_, 1) := by decide +kernel
theorem d17_22 : decode jdk_92_method_3_code 22 = .ok (.goto 9, 3) := by decide +kernel
theorem ef17_r (x0 : Addr) (m : MethodId) : entryFrame m #[(.ref x0)] 2 = mkF m 0 #[.val (.ref x0), .unset] [] := by first | (simp [entryFrame, mkF, argsToLocals, Value.category]; done) | rfl
theorem b16_0_1 : decL jdk_92_method_23_code [(.iload_n 1, 1)] 0 = true := by decide +kernel
theorem d16_1 : decode jdk_92_method_23_code 1 = .ok (.ifCond .ge 30, 3) := by decide +kernel
theorem b16_31_1 : decL jdk_92_method_23_code [(.iload_n 1, 1)] 31 = true := by decide +kernel
theorem d16_32 : decode jdk_92_method_23_code 32 = .ok (.invokestatic 52, 3) := by decide +kernel
theorem b16_35_3 : decL jdk_92_method_23_code [(.istore_n 2, 1), (.iload_n 2, 1), (.aload_n 0, 1)] 35 = true := by decide +kernel
theorem d16_38 : decode jdk_92_method_23_code 38 = .ok (.getfield 7, 3) := by decide +kernel
theorem d16_41 : decode jdk_92_method_23_code 41 = .ok (.if_icmp .lt 4, 3) := by decide +kernel
theorem d16_44 : decode jdk_92_method_23_code 44 = .ok (.return_, 1) := by decide +kernel
theorem ef16_ri (x0 : Addr) (x1 : Int32) (m : MethodId) : entryFrame m #[(.ref x0), (.int x1)] 3 = mkF m 0 #[.val (.ref x0), .val (.int x1), .unset] [] := by first | (simp [entryFrame, mkF, argsToLocals, Value.category]; done) | rfl
theorem b16_45_1 : decL jdk_92_method_23_code [(.aload_n 0, 1)] 45 = true := by decide +kernel
theorem d16_46 : decode jdk_92_method_23_code 46 = .ok (.getfield 11, 3) := by decide +kernel
theorem b16_49_2 : decL jdk_92_method_23_code [(.iload_n 2, 1), (.dup2, 1)] 49 = true := by decide +kernel
theorem d16_51 : decode jdk_92_method_23_code 51 = .ok (.laload, 1) := by decide +kernel
theorem b16_52_3 : decL jdk_92_method_23_code [(.lconst 1, 1), (.iload_n 1, 1), (.lshl, 1)] 52 = true := by decide +kernel
theorem d16_55 : decode jdk_92_method_23_code 55 = .ok (.ldc2_w 165, 3) := by decide +kernel
theorem b16_58_2 : decL jdk_92_method_23_code [(.lxor, 1), (.land, 1)] 58 = true := by decide +kernel
theorem d16_60 : decode jdk_92_method_23_code 60 = .ok (.lastore, 1) := by decide +kernel
theorem b16_61_1 : decL jdk_92_method_23_code [(.aload_n 0, 1)] 61 = true := by decide +kernel
theorem d16_62 : decode jdk_92_method_23_code 62 = .ok (.invokevirtual 158, 3) := by decide +kernel
theorem b16_65_1 : decL jdk_92_method_23_code [(.aload_n 0, 1)] 65 = true := by decide +kernel
theorem d16_66 : decode jdk_92_method_23_code 66 = .ok (.invokevirtual 56, 3) := by decide +kernel
theorem d16_69 : decode jdk_92_method_23_code 69 = .ok (.return_, 1) := by decide +kernel
theorem b18_0_1 : decL prog_81_method_5_code [(.aload_n 0, 1)] 0 = true := by decide +kernel
theorem d18_1 : decode prog_81_method_5_code 1 = .ok (.getfield 53, 3) := by decide +kernel
theorem d18_4 : decode prog_81_method_5_code 4 = .ok (.ifnull 33, 3) := by decide +kernel
theorem b18_37_1 : decL prog_81_method_5_code [(.aload_n 0, 1)] 37 = true := by decide +kernel
theorem d18_38 : decode prog_81_method_5_code 38 = .ok (.getfield 66, 3) := by decide +kernel
theorem d18_41 : decode prog_81_method_5_code 41 = .ok (.ifnull 40, 3) := by decide +kernel
theorem d18_81 : decode prog_81_method_5_code 81 = .ok (.return_, 1) := by decide +kernel
theorem ef18_ri (x0 : Addr) (x1 : Int32) (m : MethodId) : entryFrame m #[(.ref x0), (.int x1)] 4 = mkF m 0 #[.val (.ref x0), .val (.int x1), .unset, .unset] [] := by first | (simp [entryFrame, mkF, argsToLocals, Value.category]; done) | rfl
theorem pn_com_example_stillpoint_stillpoint_spec_CallGroups : plainName "com/example/stillpoint/stillpoint/spec/CallGroups" = true := by first | (simp [plainName, overriddenIn]; done) | decide +kernel
theorem b15_0_1 : decL prog_81_method_3_code [(.aload_n 0, 1)] 0 = true := by decide +kernel
theorem d15_1 : decode prog_81_method_3_code 1 = .ok (.getfield 28, 3) := by decide +kernel
theorem b15_4_1 : decL prog_81_method_3_code [(.iload_n 1, 1)] 4 = true := by decide +kernel
theorem d15_5 : decode prog_81_method_3_code 5 = .ok (.iaload, 1) := by decide +kernel
theorem d15_6 : decode prog_81_method_3_code 6 = .ok (.ifCond .lt 26, 3) := by decide +kernel
theorem d15_32 : decode prog_81_method_3_code 32 = .ok (.return_, 1) := by decide +kernel
theorem b15_9_1 : decL prog_81_method_3_code [(.aload_n 0, 1)] 9 = true := by decide +kernel
theorem d15_10 : decode prog_81_method_3_code 10 = .ok (.getfield 17, 3) := by decide +kernel
theorem b15_13_1 : decL prog_81_method_3_code [(.aload_n 0, 1)] 13 = true := by decide +kernel
theorem d15_14 : decode prog_81_method_3_code 14 = .ok (.getfield 28, 3) := by decide +kernel
theorem b15_17_1 : decL prog_81_method_3_code [(.iload_n 1, 1)] 17 = true := by decide +kernel
theorem d15_18 : decode prog_81_method_3_code 18 = .ok (.iaload, 1) := by decide +kernel
theorem d15_19 : decode prog_81_method_3_code 19 = .ok (.invokevirtual 44, 3) := by decide +kernel
theorem b15_22_2 : decL prog_81_method_3_code [(.aload_n 0, 1), (.aload_n 0, 1)] 22 = true := by decide +kernel
theorem d15_24 : decode prog_81_method_3_code 24 = .ok (.getfield 28, 3) := by decide +kernel
theorem b15_27_1 : decL prog_81_method_3_code [(.iload_n 1, 1)] 27 = true := by decide +kernel
theorem d15_28 : decode prog_81_method_3_code 28 = .ok (.iaload, 1) := by decide +kernel
theorem d15_29 : decode prog_81_method_3_code 29 = .ok (.invokevirtual 48, 3) := by decide +kernel
theorem ef15_ri (x0 : Addr) (x1 : Int32) (m : MethodId) : entryFrame m #[(.ref x0), (.int x1)] 2 = mkF m 0 #[.val (.ref x0), .val (.int x1)] [] := by first | (simp [entryFrame, mkF, argsToLocals, Value.category]; done) | rfl
theorem b13_0_1 : decL prog_81_method_18_code [(.aload_n 0, 1)] 0 = true := by decide +kernel
theorem d13_1 : decode prog_81_method_18_code 1 = .ok (.getfield 28, 3) := by decide +kernel
theorem b13_4_1 : decL prog_81_method_18_code [(.iload_n 2, 1)] 4 = true := by decide +kernel
theorem d13_5 : decode prog_81_method_18_code 5 = .ok (.iaload, 1) := by decide +kernel
theorem b13_6_5 : decL prog_81_method_18_code [(.iload_n 3, 1), (.iadd, 1), (.istore 4, 2), (.iload 4, 2), (.aload_n 0, 1)] 6 = true := by decide +kernel
theorem d13_13 : decode prog_81_method_18_code 13 = .ok (.getfield 21, 3) := by decide +kernel
theorem b13_16_3 : decL prog_81_method_18_code [(.iload_n 1, 1), (.iconst 1, 1), (.iadd, 1)] 16 = true := by decide +kernel
theorem d13_19 : decode prog_81_method_18_code 19 = .ok (.iaload, 1) := by decide +kernel
theorem d13_20 : decode prog_81_method_18_code 20 = .ok (.if_icmp .ge 13, 3) := by decide +kernel
theorem b13_33_1 : decL prog_81_method_18_code [(.iconst (-1), 1)] 33 = true := by decide +kernel
theorem d13_34 : decode prog_81_method_18_code 34 = .ok (.ireturn, 1) := by decide +kernel
theorem b13_23_1 : decL prog_81_method_18_code [(.aload_n 0, 1)] 23 = true := by decide +kernel
theorem d13_24 : decode prog_81_method_18_code 24 = .ok (.getfield 25, 3) := by decide +kernel
theorem b13_27_1 : decL prog_81_method_18_code [(.iload 4, 2)] 27 = true := by decide +kernel
theorem d13_29 : decode prog_81_method_18_code 29 = .ok (.iaload, 1) := by decide +kernel
theorem d13_30 : decode prog_81_method_18_code 30 = .ok (.goto 4, 3) := by decide +kernel
theorem ef13_riii (x0 : Addr) (x1 : Int32) (x2 : Int32) (x3 : Int32) (m : MethodId) : entryFrame m #[(.ref x0), (.int x1), (.int x2), (.int x3)] 5 = mkF m 0 #[.val (.ref x0), .val (.int x1), .val (.int x2), .val (.int x3), .unset] [] := by first | (simp [entryFrame, mkF, argsToLocals, Value.category]; done) | rfl
theorem b14_0_1 : decL method_3_code [(.iload_n 3, 1)] 0 = true := by decide +kernel
theorem d14_1 : decode method_3_code 1 = .ok (.ifCond .ne 5, 3) := by decide +kernel
theorem b14_6_6 : decL method_3_code [(.iconst 0, 1), (.istore 4, 2), (.iload_n 2, 1), (.iconst 1, 1), (.iadd, 1), (.iconst 3, 1)] 6 = true := by decide +kernel
theorem d14_13 : decode method_3_code 13 = .ok (.if_icmp .gt 25, 3) := by decide +kernel
theorem b14_16_4 : decL method_3_code [(.aload_n 0, 1), (.iload_n 2, 1), (.iconst 1, 1), (.iadd, 1)] 16 = true := by decide +kernel
theorem d14_20 : decode method_3_code 20 = .ok (.iaload, 1) := by decide +kernel
theorem b14_21_1 : decL method_3_code [(.iload_n 1, 1)] 21 = true := by decide +kernel
theorem d14_22 : decode method_3_code 22 = .ok (.if_icmp .ne 16, 3) := by decide +kernel
theorem b14_38_4 : decL method_3_code [(.iload_n 2, 1), (.iconst 2, 1), (.iadd, 1), (.iconst 3, 1)] 38 = true := by decide +kernel
theorem d14_42 : decode method_3_code 42 = .ok (.if_icmp .gt 25, 3) := by decide +kernel
theorem b14_45_4 : decL method_3_code [(.aload_n 0, 1), (.iload_n 2, 1), (.iconst 2, 1), (.iadd, 1)] 45 = true := by decide +kernel
theorem d14_49 : decode method_3_code 49 = .ok (.iaload, 1) := by decide +kernel
theorem b14_50_1 : decL method_3_code [(.iload_n 1, 1)] 50 = true := by decide +kernel
theorem d14_51 : decode method_3_code 51 = .ok (.if_icmp .ne 16, 3) := by decide +kernel
theorem b14_67_4 : decL method_3_code [(.iload_n 2, 1), (.iconst 3, 1), (.iadd, 1), (.iconst 3, 1)] 67 = true := by decide +kernel
theorem d14_71 : decode method_3_code 71 = .ok (.if_icmp .gt 25, 3) := by decide +kernel
theorem b14_74_4 : decL method_3_code [(.aload_n 0, 1), (.iload_n 2, 1), (.iconst 3, 1), (.iadd, 1)] 74 = true := by decide +kernel
theorem d14_78 : decode method_3_code 78 = .ok (.iaload, 1) := by decide +kernel
theorem b14_79_1 : decL method_3_code [(.iload_n 1, 1)] 79 = true := by decide +kernel
theorem d14_80 : decode method_3_code 80 = .ok (.if_icmp .ne 16, 3) := by decide +kernel
theorem b14_96_1 : decL method_3_code [(.iconst (-1), 1)] 96 = true := by decide +kernel
theorem d14_97 : decode method_3_code 97 = .ok (.ireturn, 1) := by decide +kernel
theorem b14_83_3 : decL method_3_code [(.iinc 4 1, 3), (.iload 4, 2), (.iload_n 3, 1)] 83 = true := by decide +kernel
theorem d14_89 : decode method_3_code 89 = .ok (.if_icmp .ne 7, 3) := by decide +kernel
theorem b14_92_3 : decL method_3_code [(.iload_n 2, 1), (.iconst 3, 1), (.iadd, 1)] 92 = true := by decide +kernel
theorem d14_95 : decode method_3_code 95 = .ok (.ireturn, 1) := by decide +kernel
theorem b14_54_3 : decL method_3_code [(.iinc 4 1, 3), (.iload 4, 2), (.iload_n 3, 1)] 54 = true := by decide +kernel
theorem d14_60 : decode method_3_code 60 = .ok (.if_icmp .ne 7, 3) := by decide +kernel
theorem b14_63_3 : decL method_3_code [(.iload_n 2, 1), (.iconst 2, 1), (.iadd, 1)] 63 = true := by decide +kernel
theorem d14_66 : decode method_3_code 66 = .ok (.ireturn, 1) := by decide +kernel
theorem b14_25_3 : decL method_3_code [(.iinc 4 1, 3), (.iload 4, 2), (.iload_n 3, 1)] 25 = true := by decide +kernel
theorem d14_31 : decode method_3_code 31 = .ok (.if_icmp .ne 7, 3) := by decide +kernel
theorem b14_34_3 : decL method_3_code [(.iload_n 2, 1), (.iconst 1, 1), (.iadd, 1)] 34 = true := by decide +kernel
theorem d14_37 : decode method_3_code 37 = .ok (.ireturn, 1) := by decide +kernel
theorem b14_4_1 : decL method_3_code [(.iload_n 2, 1)] 4 = true := by decide +kernel
theorem d14_5 : decode method_3_code 5 = .ok (.ireturn, 1) := by decide +kernel
theorem ef14_riii (x0 : Addr) (x1 : Int32) (x2 : Int32) (x3 : Int32) (m : MethodId) : entryFrame m #[(.ref x0), (.int x1), (.int x2), (.int x3)] 5 = mkF m 0 #[.val (.ref x0), .val (.int x1), .val (.int x2), .val (.int x3), .unset] [] := by first | (simp [entryFrame, mkF, argsToLocals, Value.category]; done) | rfl
theorem pn_com_example_stillpoint_stillpoint_spec_CallGroupsCallAfterPinLaw : plainName "com/example/stillpoint/stillpoint/spec/CallGroupsCallAfterPinLaw" = true := by first | (simp [plainName, overriddenIn]; done) | decide +kernel
theorem b1_0_1 : decL prog_81_method_2_code [(.aload_n 0, 1)] 0 = true := by decide +kernel
theorem d1_1 : decode prog_81_method_2_code 1 = .ok (.invokespecial 9, 3) := by decide +kernel
theorem b1_4_1 : decL prog_81_method_2_code [(.aload_n 0, 1)] 4 = true := by decide +kernel
theorem d1_5 : decode prog_81_method_2_code 5 = .ok (.new 14, 3) := by decide +kernel
theorem b1_8_1 : decL prog_81_method_2_code [(.dup, 1)] 8 = true := by decide +kernel
theorem d1_9 : decode prog_81_method_2_code 9 = .ok (.invokespecial 16, 3) := by decide +kernel
theorem d1_12 : decode prog_81_method_2_code 12 = .ok (.putfield 17, 3) := by decide +kernel
theorem b1_15_4 : decL prog_81_method_2_code [(.aload_n 0, 1), (.iload_n 2, 1), (.iconst 1, 1), (.iadd, 1)] 15 = true := by decide +kernel
theorem d1_19 : decode prog_81_method_2_code 19 = .ok (.newarray .int, 2) := by decide +kernel
theorem d1_21 : decode prog_81_method_2_code 21 = .ok (.putfield 21, 3) := by decide +kernel
theorem b1_24_3 : decL prog_81_method_2_code [(.aload_n 1, 1), (.astore 4, 2), (.aload 4, 2)] 24 = true := by decide +kernel
theorem d1_29 : decode prog_81_method_2_code 29 = .ok (.arraylength, 1) := by decide +kernel
theorem b1_30_5 : decL prog_81_method_2_code [(.istore 5, 2), (.iconst 0, 1), (.istore 6, 2), (.iload 6, 2), (.iload 5, 2)] 30 = true := by decide +kernel
theorem d1_39 : decode prog_81_method_2_code 39 = .ok (.if_icmp .ge 34, 3) := by decide +kernel
theorem b1_42_2 : decL prog_81_method_2_code [(.aload 4, 2), (.iload 6, 2)] 42 = true := by decide +kernel
theorem d1_46 : decode prog_81_method_2_code 46 = .ok (.iaload, 1) := by decide +kernel
theorem b1_47_2 : decL prog_81_method_2_code [(.istore 7, 2), (.iload 7, 2)] 47 = true := by decide +kernel
theorem d1_51 : decode prog_81_method_2_code 51 = .ok (.ifCond .lt 16, 3) := by decide +kernel
theorem b1_54_1 : decL prog_81_method_2_code [(.aload_n 0, 1)] 54 = true := by decide +kernel
theorem d1_55 : decode prog_81_method_2_code 55 = .ok (.getfield 21, 3) := by decide +kernel
theorem b1_58_4 : decL prog_81_method_2_code [(.iload 7, 2), (.iconst 1, 1), (.iadd, 1), (.dup2, 1)] 58 = true := by decide +kernel
theorem d1_63 : decode prog_81_method_2_code 63 = .ok (.iaload, 1) := by decide +kernel
theorem b1_64_2 : decL prog_81_method_2_code [(.iconst 1, 1), (.iadd, 1)] 64 = true := by decide +kernel
theorem d1_66 : decode prog_81_method_2_code 66 = .ok (.iastore, 1) := by decide +kernel
theorem b1_67_1 : decL prog_81_method_2_code [(.iinc 6 1, 3)] 67 = true := by decide +kernel
theorem d1_70 : decode prog_81_method_2_code 70 = .ok (.goto (-35), 3) := by decide +kernel
theorem b1_35_2 : decL prog_81_method_2_code [(.iload 6, 2), (.iload 5, 2)] 35 = true := by decide +kernel
theorem b1_73_4 : decL prog_81_method_2_code [(.iconst 0, 1), (.istore 4, 2), (.iload 4, 2), (.iload_n 2, 1)] 73 = true := by decide +kernel
theorem d1_79 : decode prog_81_method_2_code 79 = .ok (.if_icmp .ge 28, 3) := by decide +kernel
theorem b1_82_1 : decL prog_81_method_2_code [(.aload_n 0, 1)] 82 = true := by decide +kernel
theorem d1_83 : decode prog_81_method_2_code 83 = .ok (.getfield 21, 3) := by decide +kernel
theorem b1_86_4 : decL prog_81_method_2_code [(.iload 4, 2), (.iconst 1, 1), (.iadd, 1), (.dup2, 1)] 86 = true := by decide +kernel
theorem d1_91 : decode prog_81_method_2_code 91 = .ok (.iaload, 1) := by decide +kernel
theorem b1_92_1 : decL prog_81_method_2_code [(.aload_n 0, 1)] 92 = true := by decide +kernel
theorem d1_93 : decode prog_81_method_2_code 93 = .ok (.getfield 21, 3) := by decide +kernel
theorem b1_96_1 : decL prog_81_method_2_code [(.iload 4, 2)] 96 = true := by decide +kernel
theorem d1_98 : decode prog_81_method_2_code 98 = .ok (.iaload, 1) := by decide +kernel
theorem b1_99_1 : decL prog_81_method_2_code [(.iadd, 1)] 99 = true := by decide +kernel
theorem d1_100 : decode prog_81_method_2_code 100 = .ok (.iastore, 1) := by decide +kernel
theorem b1_101_1 : decL prog_81_method_2_code [(.iinc 4 1, 3)] 101 = true := by decide +kernel
theorem d1_104 : decode prog_81_method_2_code 104 = .ok (.goto (-28), 3) := by decide +kernel
theorem b1_76_2 : decL prog_81_method_2_code [(.iload 4, 2), (.iload_n 2, 1)] 76 = true := by decide +kernel
theorem b1_107_2 : decL prog_81_method_2_code [(.aload_n 0, 1), (.aload_n 0, 1)] 107 = true := by decide +kernel
theorem d1_109 : decode prog_81_method_2_code 109 = .ok (.getfield 21, 3) := by decide +kernel
theorem b1_112_1 : decL prog_81_method_2_code [(.iload_n 2, 1)] 112 = true := by decide +kernel
theorem d1_113 : decode prog_81_method_2_code 113 = .ok (.iaload, 1) := by decide +kernel
theorem d1_114 : decode prog_81_method_2_code 114 = .ok (.newarray .int, 2) := by decide +kernel
theorem d1_116 : decode prog_81_method_2_code 116 = .ok (.putfield 25, 3) := by decide +kernel
theorem b1_119_2 : decL prog_81_method_2_code [(.aload_n 0, 1), (.aload_n 1, 1)] 119 = true := by decide +kernel
theorem d1_121 : decode prog_81_method_2_code 121 = .ok (.arraylength, 1) := by decide +kernel
theorem d1_122 : decode prog_81_method_2_code 122 = .ok (.newarray .int, 2) := by decide +kernel
theorem d1_124 : decode prog_81_method_2_code 124 = .ok (.putfield 28, 3) := by decide +kernel
theorem b1_127_1 : decL prog_81_method_2_code [(.aload_n 0, 1)] 127 = true := by decide +kernel
theorem d1_128 : decode prog_81_method_2_code 128 = .ok (.getfield 21, 3) := by decide +kernel
theorem b1_131_1 : decL prog_81_method_2_code [(.iload_n 2, 1)] 131 = true := by decide +kernel
theorem pd_640543 : parseMethodDescriptor "([II)[I" = some ⟨[(.array .int), .int], some (.array .int)⟩ := by decide +kernel
theorem d1_132 : decode prog_81_method_2_code 132 = .ok (.invokestatic 31, 3) := by decide +kernel
theorem b1_135_5 : decL prog_81_method_2_code [(.astore 4, 2), (.iconst 0, 1), (.istore 5, 2), (.iload 5, 2), (.aload_n 1, 1)] 135 = true := by decide +kernel
theorem d1_143 : decode prog_81_method_2_code 143 = .ok (.arraylength, 1) := by decide +kernel
theorem d1_144 : decode prog_81_method_2_code 144 = .ok (.if_icmp .ge 60, 3) := by decide +kernel
theorem b1_147_2 : decL prog_81_method_2_code [(.aload_n 1, 1), (.iload 5, 2)] 147 = true := by decide +kernel
theorem d1_150 : decode prog_81_method_2_code 150 = .ok (.iaload, 1) := by decide +kernel
theorem b1_151_2 : decL prog_81_method_2_code [(.istore 6, 2), (.aload_n 0, 1)] 151 = true := by decide +kernel
theorem d1_154 : decode prog_81_method_2_code 154 = .ok (.getfield 28, 3) := by decide +kernel
theorem b1_157_2 : decL prog_81_method_2_code [(.iload 5, 2), (.iload 6, 2)] 157 = true := by decide +kernel
theorem d1_161 : decode prog_81_method_2_code 161 = .ok (.ifCond .ge 7, 3) := by decide +kernel
theorem b1_164_1 : decL prog_81_method_2_code [(.iconst (-1), 1)] 164 = true := by decide +kernel
theorem d1_165 : decode prog_81_method_2_code 165 = .ok (.goto 13, 3) := by decide +kernel
theorem d1_178 : decode prog_81_method_2_code 178 = .ok (.iastore, 1) := by decide +kernel
theorem b1_179_1 : decL prog_81_method_2_code [(.iload 6, 2)] 179 = true := by decide +kernel
theorem d1_181 : decode prog_81_method_2_code 181 = .ok (.ifCond .lt 17, 3) := by decide +kernel
theorem b1_168_3 : decL prog_81_method_2_code [(.aload 4, 2), (.iload 6, 2), (.dup2, 1)] 168 = true := by decide +kernel
theorem d1_173 : decode prog_81_method_2_code 173 = .ok (.iaload, 1) := by decide +kernel
theorem b1_174_3 : decL prog_81_method_2_code [(.dup_x2, 1), (.iconst 1, 1), (.iadd, 1)] 174 = true := by decide +kernel
theorem d1_177 : decode prog_81_method_2_code 177 = .ok (.iastore, 1) := by decide +kernel
theorem b1_184_1 : decL prog_81_method_2_code [(.aload_n 0, 1)] 184 = true := by decide +kernel
theorem d1_185 : decode prog_81_method_2_code 185 = .ok (.getfield 25, 3) := by decide +kernel
theorem b1_188_1 : decL prog_81_method_2_code [(.aload_n 0, 1)] 188 = true := by decide +kernel
theorem d1_189 : decode prog_81_method_2_code 189 = .ok (.getfield 28, 3) := by decide +kernel
theorem b1_192_1 : decL prog_81_method_2_code [(.iload 5, 2)] 192 = true := by decide +kernel
theorem d1_194 : decode prog_81_method_2_code 194 = .ok (.iaload, 1) := by decide +kernel
theorem b1_195_1 : decL prog_81_method_2_code [(.iload 5, 2)] 195 = true := by decide +kernel
theorem d1_197 : decode prog_81_method_2_code 197 = .ok (.iastore, 1) := by decide +kernel
theorem b1_198_1 : decL prog_81_method_2_code [(.iinc 5 1, 3)] 198 = true := by decide +kernel
theorem d1_201 : decode prog_81_method_2_code 201 = .ok (.goto (-61), 3) := by decide +kernel
theorem b1_140_2 : decL prog_81_method_2_code [(.iload 5, 2), (.aload_n 1, 1)] 140 = true := by decide +kernel
theorem b1_204_1 : decL prog_81_method_2_code [(.aload_n 0, 1)] 204 = true := by decide +kernel
theorem d1_205 : decode prog_81_method_2_code 205 = .ok (.getfield 17, 3) := by decide +kernel
theorem b1_208_2 : decL prog_81_method_2_code [(.iconst 0, 1), (.aload_n 0, 1)] 208 = true := by decide +kernel
theorem d1_210 : decode prog_81_method_2_code 210 = .ok (.getfield 25, 3) := by decide +kernel
theorem d1_213 : decode prog_81_method_2_code 213 = .ok (.arraylength, 1) := by decide +kernel
theorem d1_214 : decode prog_81_method_2_code 214 = .ok (.invokevirtual 37, 3) := by decide +kernel
theorem b1_217_2 : decL prog_81_method_2_code [(.aload_n 0, 1), (.aload_n 3, 1)] 217 = true := by decide +kernel
theorem d1_219 : decode prog_81_method_2_code 219 = .ok (.putfield 41, 3) := by decide +kernel
theorem d1_222 : decode prog_81_method_2_code 222 = .ok (.return_, 1) := by decide +kernel
theorem ef1_rrin (x0 : Addr) (x1 : Addr) (x2 : Int32) (m : MethodId) : entryFrame m #[(.ref x0), (.ref x1), (.int x2), .null] 8 = mkF m 0 #[.val (.ref x0), .val (.ref x1), .val (.int x2), .val .null, .unset, .unset, .unset, .unset] [] := by first | (simp [entryFrame, mkF, argsToLocals, Value.category]; done) | rfl
theorem b0_0_1 : decL code [(.iconst 4, 1)] 0 = true := by decide +kernel
theorem b0_3_8 : decL code [(.astore 4, 2), (.aload 4, 2), (.iconst 0, 1), (.iload_n 0, 1), (.iconst 3, 1), (.iand, 1), (.iconst 1, 1), (.isub, 1)] 3 = true := by decide +kernel
theorem b0_14_9 : decL code [(.aload 4, 2), (.iconst 1, 1), (.iload_n 0, 1), (.iconst 2, 1), (.iushr, 1), (.iconst 3, 1), (.iand, 1), (.iconst 1, 1), (.isub, 1)] 14 = true := by decide +kernel
theorem b0_25_9 : decL code [(.aload 4, 2), (.iconst 2, 1), (.iload_n 0, 1), (.iconst 4, 1), (.iushr, 1), (.iconst 3, 1), (.iand, 1), (.iconst 1, 1), (.isub, 1)] 25 = true := by decide +kernel
theorem b0_36_9 : decL code [(.aload 4, 2), (.iconst 3, 1), (.iload_n 0, 1), (.bipush 6, 2), (.iushr, 1), (.iconst 3, 1), (.iand, 1), (.iconst 1, 1), (.isub, 1)] 36 = true := by decide +kernel
theorem b0_48_6 : decL code [(.iload_n 1, 1), (.iconst 3, 1), (.iand, 1), (.istore 5, 2), (.aload 4, 2), (.iload 5, 2)] 48 = true := by decide +kernel
theorem b0_58_2 : decL code [(.istore 6, 2), (.iload 6, 2)] 58 = true := by decide +kernel
theorem b0_67_4 : decL code [(.iload_n 2, 1), (.bipush 7, 2), (.iand, 1), (.istore 7, 2)] 67 = true := by decide +kernel
theorem b0_76_4 : decL code [(.dup, 1), (.aload 4, 2), (.iconst 3, 1), (.aconst_null, 1)] 76 = true := by decide +kernel
theorem pd_328116 : parseMethodDescriptor "([II[I)V" = some ⟨[(.array .int), .int, (.array .int)], none⟩ := by decide +kernel
theorem b0_84_6 : decL code [(.astore 8, 2), (.iload_n 3, 1), (.iconst 2, 1), (.iushr, 1), (.iconst 1, 1), (.iand, 1)] 84 = true := by decide +kernel
theorem b0_94_4 : decL code [(.aload 8, 2), (.iload_n 3, 1), (.iconst 3, 1), (.iand, 1)] 94 = true := by decide +kernel
theorem b0_102_4 : decL code [(.aload 8, 2), (.iload 6, 2), (.iload 5, 2), (.iload 7, 2)] 102 = true := by decide +kernel
theorem pd_332799 : parseMethodDescriptor "(III)I" = some ⟨[.int, .int, .int], some .int⟩ := by decide +kernel
theorem b0_113_4 : decL code [(.aload 4, 2), (.iload 6, 2), (.iload 5, 2), (.iload 7, 2)] 113 = true := by decide +kernel
theorem pd_791868 : parseMethodDescriptor "([IIII)I" = some ⟨[(.array .int), .int, .int, .int], some .int⟩ := by decide +kernel
theorem b0_127_1 : decL code [(.iconst 1, 1)] 127 = true := by decide +kernel
theorem b0_65_1 : decL code [(.iconst 1, 1)] 65 = true := by decide +kernel
theorem ef0_iiii (x0 : Int32) (x1 : Int32) (x2 : Int32) (x3 : Int32) (m : MethodId) : entryFrame m #[(.int x0), (.int x1), (.int x2), (.int x3)] maxLocals = mkF m 0 #[.val (.int x0), .val (.int x1), .val (.int x2), .val (.int x3), .unset, .unset, .unset, .unset, .unset] [] := by first | (simp [entryFrame, mkF, argsToLocals, Value.category, maxLocals]; done) | rfl
abbrev BSs (v0 v1 v2 : Value) : List SO := [(("java/util/BitSet", "words", "[J"), v0), (("java/util/BitSet", "wordsInUse", "I"), v1), (("java/util/BitSet", "sizeIsSticky", "Z"), v2)]
abbrev CGs (v0 v1 v2 v3 v4 v5 v6 : Value) : List SO := [(("com/example/stillpoint/stillpoint/spec/CallGroups", "byGroup", "[I"), v0), (("com/example/stillpoint/stillpoint/spec/CallGroups", "start", "[I"), v1), (("com/example/stillpoint/stillpoint/spec/CallGroups", "placeOf", "[I"), v2), (("com/example/stillpoint/stillpoint/spec/CallGroups", "unplaced", "Ljava/util/BitSet;"), v3), (("com/example/stillpoint/stillpoint/spec/CallGroups", "weight", "[I"), v4), (("com/example/stillpoint/stillpoint/spec/CallGroups", "greatestUnder", "[I"), v5), (("com/example/stillpoint/stillpoint/spec/CallGroups", "unplacedUnder", "[I"), v6)]

abbrev GB : List SO := [(("java/util/BitSet", "$assertionsDisabled", "Z"), .int 1)]

set_option maxRecDepth 65536 in
set_option maxHeartbeats 40000000 in
theorem kWI (l : Launch) (Z : State) (n0 : Nat) (a0 : Array Value) (hw : ∀ d ∈ tables_1, d.before a0 Z = true) (h : Heap) (i : Int32) : Con l Z n0 (⟨"java/util/BitSet", "wordIndex", "(I)I"⟩ : MethodName) jdk_92_method_1_code 1 (some .int) ({ frames := 0, cells := 0, slots := 0, locals := 0 } : Room) #[(.int i)] h (fun v h' => v = some (.int (i >>> ((6 : Int32) &&& 31))) ∧ h = h') := by
  refine Con.mk (Ls := #[.val (.int i)]) (plainFor_of_name pn_java_util_BitSet) (ef5_i i) ?_
  intro p e s m below meth c A hret hlk hnm
  refine Goes.blk A _ b5_0_3 (pc' := 4) (Ls' := #[.val (.int i)]) (st' := [(.int (i >>> ((6 : Int32) &&& 31)))]) rfl ?_
  exact Goes.retI A hret hlk d5_4 (by decide) (by decide) ⟨rfl, rfl⟩
set_option maxRecDepth 65536 in
set_option maxHeartbeats 40000000 in
theorem kIW (l : Launch) (Z : State) (n0 : Nat) (a0 : Array Value) (hw : ∀ d ∈ tables_1, d.before a0 Z = true) (h : Heap) (Z0 : n0 ≤ h.size) (bs : Addr) (R : Rep Z a0 n0 h GB [(bs, true, .inl ("java/util/BitSet", (BSs .null (.int (0 : Int32)) (.int (0 : Int32)))))]) : Con l Z n0 (⟨"java/util/BitSet", "initWords", "(I)V"⟩ : MethodName) jdk_92_method_6_code 2 none ({ frames := 1, cells := 1, slots := 1, locals := 13 } : Room) #[(.ref bs), (.int (64 : Int32))] h (fun v h' => ∃ wd, v = none ∧ h.size ≤ wd ∧ Keep h h' [bs] ∧ Rep Z a0 n0 h' GB [(bs, true, .inl ("java/util/BitSet", (BSs (.ref wd) (.int (0 : Int32)) (.int (0 : Int32))))), (wd, true, .inr (.long, [(.long (0 : Int64))]))]) := by
  refine Con.mk (Ls := #[.val (.ref bs), .val (.int (64 : Int32))]) (plainFor_of_name pn_java_util_BitSet) (ef4_ri bs (64 : Int32)) ?_
  intro p e s m below meth c A hret hlk hnm
  have K : Keep h h [bs] := Keep.refl _ _
  refine Goes.blk A _ b4_0_4 (pc' := 4) (Ls' := #[.val (.ref bs), .val (.int (64 : Int32))]) (st' := [(.int ((64 : Int32) - (1 : Int32))), (.ref bs)]) rfl ?_
  refine Goes.static A (hw _ (List.mem_of_getElem? (i := 26) rfl)) (hw _ (List.mem_of_getElem? (i := 27) rfl)) (hw _ (List.mem_of_getElem? (i := 12) rfl)) (hw _ (List.mem_of_getElem? (i := 28) rfl)) d4_4 pd_727763 (by decide) (argsL := [(.int ((64 : Int32) - (1 : Int32)))]) (rest := [(.ref bs)]) rfl rfl rfl (W := 1) (Nat.le_of_ble_eq_true rfl) (by decide) (by decide) (by decide) (by decide) (kWI l Z n0 a0 hw h ((64 : Int32) - (1 : Int32))) (fun v hq hh => ?_)
  obtain ⟨rfl, rfl⟩ := hh
  show Goes p l e _ s m _ below meth c n0 _ h 0 0 7 #[.val (.ref bs), .val (.int (64 : Int32))] [(.int (((64 : Int32) - (1 : Int32)) >>> ((6 : Int32) &&& 31))), (.ref bs)]
  refine Goes.blk A _ b4_7_2 (pc' := 9) (Ls' := #[.val (.ref bs), .val (.int (64 : Int32))]) (st' := [(.int ((((64 : Int32) - (1 : Int32)) >>> ((6 : Int32) &&& 31)) + (1 : Int32))), (.ref bs)]) rfl ?_
  refine Goes.newArr A (hw _ (List.mem_of_getElem? (i := 29) rfl)) R K Z0 d4_9 (k := 1) (by decide) (cap := 1) (by decide) (by decide) (by decide) (by decide) (fun b1 h2 zs2 zt2 K2 R2 => ?_)
  replace R2 : Rep Z a0 n0 h2 GB [(bs, true, .inl ("java/util/BitSet", (BSs .null (.int (0 : Int32)) (.int (0 : Int32))))), (b1, true, .inr (.long, [(.long (0 : Int64))]))] := R2
  show Goes p l e _ s m _ below meth c n0 _ h2 1 1 11 #[.val (.ref bs), .val (.int (64 : Int32))] [(.ref b1), (.ref bs)]
  refine Goes.put A (hw _ (List.mem_of_getElem? (i := 30) rfl)) Via.refl R2 K2 (i := 0) (j := 0) rfl rfl (Or.inl (List.mem_of_getElem? (i := 0) rfl)) (Or.inl (hw _ (List.mem_of_getElem? (i := 31) rfl))) (hw _ (List.mem_of_getElem? (i := 11) rfl)) (ty := (.array .long)) (by decide) rfl rfl d4_11 (fun h3 K3 R3 => ?_)
  replace R3 : Rep Z a0 n0 h3 GB [(bs, true, .inl ("java/util/BitSet", (BSs (.ref b1) (.int (0 : Int32)) (.int (0 : Int32))))), (b1, true, .inr (.long, [(.long (0 : Int64))]))] := R3
  exact Goes.retV A hret hlk d4_14 (by decide) (by decide) ⟨_, rfl, zs2, K3, R3⟩
set_option maxRecDepth 65536 in
set_option maxHeartbeats 40000000 in
theorem kBI (l : Launch) (Z : State) (n0 : Nat) (a0 : Array Value) (hw : ∀ d ∈ tables_1, d.before a0 Z = true) (h : Heap) (Z0 : n0 ≤ h.size) (bs : Addr) (R : Rep Z a0 n0 h GB [(bs, true, .inl ("java/util/BitSet", (BSs .null (.int (0 : Int32)) (.int (0 : Int32)))))]) : Con l Z n0 (⟨"java/util/BitSet", "<init>", "()V"⟩ : MethodName) jdk_92_method_4_code 1 none ({ frames := 2, cells := 1, slots := 1, locals := 26 } : Room) #[(.ref bs)] h (fun v h' => ∃ wd, v = none ∧ h.size ≤ wd ∧ Keep h h' [bs] ∧ Rep Z a0 n0 h' GB [(bs, true, .inl ("java/util/BitSet", (BSs (.ref wd) (.int (0 : Int32)) (.int (0 : Int32))))), (wd, true, .inr (.long, [(.long (0 : Int64))]))]) := by
  refine Con.mk (Ls := #[.val (.ref bs)]) (plainFor_of_name pn_java_util_BitSet) (ef3_r bs) ?_
  intro p e s m below meth c A hret hlk hnm
  have K : Keep h h [bs] := Keep.refl _ _
  refine Goes.blk A _ b3_0_1 (pc' := 1) (Ls' := #[.val (.ref bs)]) (st' := [(.ref bs)]) rfl ?_
  refine Goes.initO A (hw _ (List.mem_of_getElem? (i := 16) rfl)) (hw _ (List.mem_of_getElem? (i := 8) rfl)) (hw _ (List.mem_of_getElem? (i := 9) rfl)) d3_1 rfl (W := 0) (Nat.le_of_ble_eq_true rfl) (by decide) (by decide) ?_
  refine Goes.blk A _ b3_4_2 (pc' := 6) (Ls' := #[.val (.ref bs)]) (st' := [(.int (0 : Int32)), (.ref bs)]) rfl ?_
  refine Goes.put A (hw _ (List.mem_of_getElem? (i := 17) rfl)) Via.refl R K (i := 0) (j := 1) rfl rfl (Or.inl (List.mem_of_getElem? (i := 0) rfl)) (Or.inl (hw _ (List.mem_of_getElem? (i := 18) rfl))) (hw _ (List.mem_of_getElem? (i := 11) rfl)) (ty := .int) (by decide) rfl rfl d3_6 (fun h1 K1 R1 => ?_)
  replace R1 : Rep Z a0 n0 h1 GB [(bs, true, .inl ("java/util/BitSet", (BSs .null (.int (0 : Int32)) (.int (0 : Int32)))))] := R1
  refine Goes.blk A _ b3_9_2 (pc' := 11) (Ls' := #[.val (.ref bs)]) (st' := [(.int (0 : Int32)), (.ref bs)]) rfl ?_
  refine Goes.put A (hw _ (List.mem_of_getElem? (i := 19) rfl)) Via.refl R1 K1 (i := 0) (j := 2) rfl rfl (Or.inl (List.mem_of_getElem? (i := 0) rfl)) (Or.inl (hw _ (List.mem_of_getElem? (i := 20) rfl))) (hw _ (List.mem_of_getElem? (i := 11) rfl)) (ty := .boolean) (by decide) rfl rfl d3_11 (fun h2 K2 R2 => ?_)
  replace R2 : Rep Z a0 n0 h2 GB [(bs, true, .inl ("java/util/BitSet", (BSs .null (.int (0 : Int32)) (.int (0 : Int32)))))] := R2
  refine Goes.blk A _ b3_14_2 (pc' := 17) (Ls' := #[.val (.ref bs)]) (st' := [(.int (64 : Int32)), (.ref bs)]) rfl ?_
  refine Goes.priv A (hw _ (List.mem_of_getElem? (i := 21) rfl)) (hw _ (List.mem_of_getElem? (i := 22) rfl)) (hw _ (List.mem_of_getElem? (i := 24) rfl)) (hw _ (List.mem_of_getElem? (i := 23) rfl)) (hw _ (List.mem_of_getElem? (i := 12) rfl)) (hw _ (List.mem_of_getElem? (i := 25) rfl)) d3_17 pd_727776 (by decide) (R2.exa (i := 0) rfl) (argsL := [(.int (64 : Int32))]) (rest := []) rfl rfl rfl (W := 0) (Nat.le_of_ble_eq_true rfl) (by decide) (by decide) (by decide) (by decide) (kIW l Z n0 a0 hw h2 (Nat.le_trans Z0 K2.1) bs (R2.pick [0] [0] rfl rfl (by decide))) (fun v h3 hh => ?_)
  obtain ⟨wd, rfl, zt3_0, Kc3, Rc3⟩ := hh
  have R3 := R2.upd Kc3 [0] Rc3 (Nat.le_of_ble_eq_true rfl) rfl [0] rfl (by decide) (alS zt3_0 al0)
  have K3 := K2.trans Kc3 (alS (Or.inl (List.mem_of_getElem? (i := 0) rfl)) al0)
  replace R3 : Rep Z a0 n0 h3 GB [(bs, true, .inl ("java/util/BitSet", (BSs (.ref wd) (.int (0 : Int32)) (.int (0 : Int32))))), (wd, true, .inr (.long, [(.long (0 : Int64))]))] := R3
  show Goes p l e _ s m _ below meth c n0 _ h3 1 1 20 #[.val (.ref bs)] []
  refine Goes.blk A _ b3_20_2 (pc' := 22) (Ls' := #[.val (.ref bs)]) (st' := [(.int (0 : Int32)), (.ref bs)]) rfl ?_
  refine Goes.put A (hw _ (List.mem_of_getElem? (i := 19) rfl)) Via.refl R3 K3 (i := 0) (j := 2) rfl rfl (Or.inl (List.mem_of_getElem? (i := 0) rfl)) (Or.inl (hw _ (List.mem_of_getElem? (i := 20) rfl))) (hw _ (List.mem_of_getElem? (i := 11) rfl)) (ty := .boolean) (by decide) rfl rfl d3_22 (fun h4 K4 R4 => ?_)
  replace R4 : Rep Z a0 n0 h4 GB [(bs, true, .inl ("java/util/BitSet", (BSs (.ref wd) (.int (0 : Int32)) (.int (0 : Int32))))), (wd, true, .inr (.long, [(.long (0 : Int64))]))] := R4
  exact Goes.retV A hret hlk d3_25 (by decide) (by decide) ⟨_, rfl, (Nat.le_trans K2.1 zt3_0), K4, R4⟩
set_option maxRecDepth 65536 in
set_option maxHeartbeats 40000000 in
theorem kMn (l : Launch) (Z : State) (n0 : Nat) (a0 : Array Value) (hw : ∀ d ∈ tables_1, d.before a0 Z = true) (h : Heap)  : Con l Z n0 (⟨"java/lang/Math", "min", "(II)I"⟩ : MethodName) jdk_29_method_69_code 2 (some .int) ({ frames := 0, cells := 0, slots := 0, locals := 0 } : Room) #[(.int (4 : Int32)), (.int (3 : Int32))] h (fun v h' => v = some (.int (3 : Int32)) ∧ h = h') := by
  refine Con.mk (Ls := #[.val (.int (4 : Int32)), .val (.int (3 : Int32))]) pf_7 (ef7_ii (4 : Int32) (3 : Int32)) ?_
  intro p e s m below meth c A hret hlk hnm
  refine Goes.blk A _ b7_0_2 (pc' := 2) (Ls' := #[.val (.int (4 : Int32)), .val (.int (3 : Int32))]) (st' := [(.int (3 : Int32)), (.int (4 : Int32))]) rfl ?_
  refine Goes.if2 A d7_2 (by decide) (pc' := 9) (by decide) (fun hc1 => ?_) (fun hc => absurd (cP_t (by decide)) hc)
  refine Goes.blk A _ b7_9_1 (pc' := 10) (Ls' := #[.val (.int (4 : Int32)), .val (.int (3 : Int32))]) (st' := [(.int (3 : Int32))]) rfl ?_
  exact Goes.retI A hret hlk d7_10 (by decide) (by decide) ⟨rfl, rfl⟩
set_option maxRecDepth 65536 in
set_option maxHeartbeats 40000000 in
theorem kCO (l : Launch) (Z : State) (n0 : Nat) (a0 : Array Value) (hw : ∀ d ∈ tables_1, d.before a0 Z = true) (h : Heap) (Z0 : n0 ≤ h.size) (st : Addr) (s0 s1 s2 s3 : Int32) (R : Rep Z a0 n0 h [] [(st, true, .inr (.int, [(.int s0), (.int s1), (.int s2), (.int s3)]))]) : Con l Z n0 (⟨"java/util/Arrays", "copyOf", "([II)[I"⟩ : MethodName) jdk_65_method_123_code 3 (some (.array .int)) ({ frames := 1, cells := 1, slots := 3, locals := 18 } : Room) #[(.ref st), (.int (3 : Int32))] h (fun v h' => ∃ fl, v = some (.ref fl) ∧ h.size ≤ fl ∧ Keep h h' [] ∧ Rep Z a0 n0 h' [] [(st, true, .inr (.int, [(.int s0), (.int s1), (.int s2), (.int s3)])), (fl, true, .inr (.int, [(.int s0), (.int s1), (.int s2)]))]) := by
  refine Con.mk (Ls := #[.val (.ref st), .val (.int (3 : Int32)), .unset]) (plainFor_of_name pn_java_util_Arrays) (ef6_ri st (3 : Int32)) ?_
  intro p e s m below meth c A hret hlk hnm
  have K : Keep h h [] := Keep.refl _ _
  refine Goes.blk A _ b6_0_2 (pc' := 2) (Ls' := #[.val (.ref st), .val (.int (3 : Int32)), .unset]) (st' := [(.ref st), (.int (3 : Int32))]) rfl ?_
  refine Goes.alen A R (i := 0) rfl (z := 4) (by rfl) d6_2 ?_
  refine Goes.if2 A d6_3 (by decide) (pc' := 14) (by decide) (fun hc1 => ?_) (fun hc => absurd (cP_t (by decide)) hc)
  refine Goes.blk A _ b6_14_1 (pc' := 15) (Ls' := #[.val (.ref st), .val (.int (3 : Int32)), .unset]) (st' := [(.int (3 : Int32))]) rfl ?_
  refine Goes.newArr A (hw _ (List.mem_of_getElem? (i := 0) rfl)) R K Z0 d6_15 (k := 3) (by decide) (cap := 3) (by decide) (by decide) (by decide) (by decide) (fun b2 h3 zs3 zt3 K3 R3 => ?_)
  replace R3 : Rep Z a0 n0 h3 [] [(st, true, .inr (.int, [(.int s0), (.int s1), (.int s2), (.int s3)])), (b2, true, .inr (.int, [(.int (0 : Int32)), (.int (0 : Int32)), (.int (0 : Int32))]))] := R3
  show Goes p l e _ s m _ below meth c n0 _ h3 1 3 17 #[.val (.ref st), .val (.int (3 : Int32)), .unset] [(.ref b2)]
  refine Goes.blk A _ b6_17_6 (pc' := 23) (Ls' := #[.val (.ref st), .val (.int (3 : Int32)), .val (.ref b2)]) (st' := [(.ref st), (.int (0 : Int32)), (.ref b2), (.int (0 : Int32)), (.ref st)]) rfl ?_
  refine Goes.alen A R3 (i := 0) rfl (z := 4) (by rfl) d6_23 ?_
  refine Goes.blk A _ b6_24_1 (pc' := 25) (Ls' := #[.val (.ref st), .val (.int (3 : Int32)), .val (.ref b2)]) (st' := [(.int (3 : Int32)), (.int (4 : Int32)), (.int (0 : Int32)), (.ref b2), (.int (0 : Int32)), (.ref st)]) rfl ?_
  refine Goes.static A (hw _ (List.mem_of_getElem? (i := 44) rfl)) (hw _ (List.mem_of_getElem? (i := 45) rfl)) (hw _ (List.mem_of_getElem? (i := 46) rfl)) (hw _ (List.mem_of_getElem? (i := 47) rfl)) d6_25 pd_590420 (by decide) (argsL := [(.int (4 : Int32)), (.int (3 : Int32))]) (rest := [(.int (0 : Int32)), (.ref b2), (.int (0 : Int32)), (.ref st)]) rfl rfl rfl (W := 4) (Nat.le_of_ble_eq_true rfl) (by decide) (by decide) (by decide) (by decide) (kMn l Z n0 a0 hw h3) (fun v hq hh => ?_)
  obtain ⟨rfl, rfl⟩ := hh
  show Goes p l e _ s m _ below meth c n0 _ h3 1 3 28 #[.val (.ref st), .val (.int (3 : Int32)), .val (.ref b2)] [(.int (3 : Int32)), (.int (0 : Int32)), (.ref b2), (.int (0 : Int32)), (.ref st)]
  refine Goes.acopy A (hw _ (List.mem_of_getElem? (i := 48) rfl)) (hw _ (List.mem_of_getElem? (i := 51) rfl)) (hw _ (List.mem_of_getElem? (i := 49) rfl)) (hw _ (List.mem_of_getElem? (i := 50) rfl)) R3 K3 (i := 0) (j := 1) rfl rfl (Or.inr zs3) rfl (k1 := 0) (k2 := 0) (k3 := 3) (by decide) (by decide) (by decide) (Nat.le_of_ble_eq_true rfl) (Nat.le_of_ble_eq_true rfl) (us := [(.int s0), (.int s1), (.int s2)]) rfl d6_28 rfl (W := 0) (Nat.le_of_ble_eq_true rfl) (by decide) (by decide) (fun h4 K4 R4 => ?_)
  replace R4 : Rep Z a0 n0 h4 [] [(st, true, .inr (.int, [(.int s0), (.int s1), (.int s2), (.int s3)])), (b2, true, .inr (.int, [(.int s0), (.int s1), (.int s2)]))] := R4
  show Goes p l e _ s m _ below meth c n0 _ h4 1 3 31 #[.val (.ref st), .val (.int (3 : Int32)), .val (.ref b2)] []
  refine Goes.blk A _ b6_31_1 (pc' := 32) (Ls' := #[.val (.ref st), .val (.int (3 : Int32)), .val (.ref b2)]) (st' := [(.ref b2)]) rfl ?_
  exact Goes.retA A hret rfl rfl rfl hlk d6_32 (by decide) (by decide) ⟨_, rfl, zs3, K4, R4⟩
set_option maxRecDepth 65536 in
set_option maxHeartbeats 40000000 in
theorem kCR0 (l : Launch) (Z : State) (n0 : Nat) (a0 : Array Value) (hw : ∀ d ∈ tables_1, d.before a0 Z = true) (h : Heap)  : Con l Z n0 (⟨"java/util/BitSet", "checkRange", "(II)V"⟩ : MethodName) jdk_92_method_16_code 2 none ({ frames := 0, cells := 0, slots := 0, locals := 0 } : Room) #[(.int (0 : Int32)), (.int (0 : Int32))] h (fun v h' => v = none ∧ h = h') := by
  refine Con.mk (Ls := #[.val (.int (0 : Int32)), .val (.int (0 : Int32))]) (plainFor_of_name pn_java_util_BitSet) (ef9_ii (0 : Int32) (0 : Int32)) ?_
  intro p e s m below meth c A hret hlk hnm
  refine Goes.blk A _ b9_0_1 (pc' := 1) (Ls' := #[.val (.int (0 : Int32)), .val (.int (0 : Int32))]) (st' := [(.int (0 : Int32))]) rfl ?_
  refine Goes.if1 A d9_1 (by decide) (pc' := 31) (by decide) (fun hc1 => ?_) (fun hc => absurd (cP_t (by decide)) hc)
  refine Goes.blk A _ b9_31_1 (pc' := 32) (Ls' := #[.val (.int (0 : Int32)), .val (.int (0 : Int32))]) (st' := [(.int (0 : Int32))]) rfl ?_
  refine Goes.if1 A d9_32 (by decide) (pc' := 62) (by decide) (fun hc2 => ?_) (fun hc => absurd (cP_t (by decide)) hc)
  refine Goes.blk A _ b9_62_2 (pc' := 64) (Ls' := #[.val (.int (0 : Int32)), .val (.int (0 : Int32))]) (st' := [(.int (0 : Int32)), (.int (0 : Int32))]) rfl ?_
  refine Goes.if2 A d9_64 (by decide) (pc' := 103) (by decide) (fun hc3 => ?_) (fun hc => absurd (cP_t (by decide)) hc)
  exact Goes.retV A hret hlk d9_103 (by decide) (by decide) ⟨rfl, rfl⟩
set_option maxRecDepth 65536 in
set_option maxHeartbeats 40000000 in
theorem kCR1 (l : Launch) (Z : State) (n0 : Nat) (a0 : Array Value) (hw : ∀ d ∈ tables_1, d.before a0 Z = true) (h : Heap)  : Con l Z n0 (⟨"java/util/BitSet", "checkRange", "(II)V"⟩ : MethodName) jdk_92_method_16_code 2 none ({ frames := 0, cells := 0, slots := 0, locals := 0 } : Room) #[(.int (0 : Int32)), (.int (1 : Int32))] h (fun v h' => v = none ∧ h = h') := by
  refine Con.mk (Ls := #[.val (.int (0 : Int32)), .val (.int (1 : Int32))]) (plainFor_of_name pn_java_util_BitSet) (ef9_ii (0 : Int32) (1 : Int32)) ?_
  intro p e s m below meth c A hret hlk hnm
  refine Goes.blk A _ b9_0_1 (pc' := 1) (Ls' := #[.val (.int (0 : Int32)), .val (.int (1 : Int32))]) (st' := [(.int (0 : Int32))]) rfl ?_
  refine Goes.if1 A d9_1 (by decide) (pc' := 31) (by decide) (fun hc1 => ?_) (fun hc => absurd (cP_t (by decide)) hc)
  refine Goes.blk A _ b9_31_1 (pc' := 32) (Ls' := #[.val (.int (0 : Int32)), .val (.int (1 : Int32))]) (st' := [(.int (1 : Int32))]) rfl ?_
  refine Goes.if1 A d9_32 (by decide) (pc' := 62) (by decide) (fun hc2 => ?_) (fun hc => absurd (cP_t (by decide)) hc)
  refine Goes.blk A _ b9_62_2 (pc' := 64) (Ls' := #[.val (.int (0 : Int32)), .val (.int (1 : Int32))]) (st' := [(.int (1 : Int32)), (.int (0 : Int32))]) rfl ?_
  refine Goes.if2 A d9_64 (by decide) (pc' := 103) (by decide) (fun hc3 => ?_) (fun hc => absurd (cP_t (by decide)) hc)
  exact Goes.retV A hret hlk d9_103 (by decide) (by decide) ⟨rfl, rfl⟩
set_option maxRecDepth 65536 in
set_option maxHeartbeats 40000000 in
theorem kCR2 (l : Launch) (Z : State) (n0 : Nat) (a0 : Array Value) (hw : ∀ d ∈ tables_1, d.before a0 Z = true) (h : Heap)  : Con l Z n0 (⟨"java/util/BitSet", "checkRange", "(II)V"⟩ : MethodName) jdk_92_method_16_code 2 none ({ frames := 0, cells := 0, slots := 0, locals := 0 } : Room) #[(.int (0 : Int32)), (.int (2 : Int32))] h (fun v h' => v = none ∧ h = h') := by
  refine Con.mk (Ls := #[.val (.int (0 : Int32)), .val (.int (2 : Int32))]) (plainFor_of_name pn_java_util_BitSet) (ef9_ii (0 : Int32) (2 : Int32)) ?_
  intro p e s m below meth c A hret hlk hnm
  refine Goes.blk A _ b9_0_1 (pc' := 1) (Ls' := #[.val (.int (0 : Int32)), .val (.int (2 : Int32))]) (st' := [(.int (0 : Int32))]) rfl ?_
  refine Goes.if1 A d9_1 (by decide) (pc' := 31) (by decide) (fun hc1 => ?_) (fun hc => absurd (cP_t (by decide)) hc)
  refine Goes.blk A _ b9_31_1 (pc' := 32) (Ls' := #[.val (.int (0 : Int32)), .val (.int (2 : Int32))]) (st' := [(.int (2 : Int32))]) rfl ?_
  refine Goes.if1 A d9_32 (by decide) (pc' := 62) (by decide) (fun hc2 => ?_) (fun hc => absurd (cP_t (by decide)) hc)
  refine Goes.blk A _ b9_62_2 (pc' := 64) (Ls' := #[.val (.int (0 : Int32)), .val (.int (2 : Int32))]) (st' := [(.int (2 : Int32)), (.int (0 : Int32))]) rfl ?_
  refine Goes.if2 A d9_64 (by decide) (pc' := 103) (by decide) (fun hc3 => ?_) (fun hc => absurd (cP_t (by decide)) hc)
  exact Goes.retV A hret hlk d9_103 (by decide) (by decide) ⟨rfl, rfl⟩
set_option maxRecDepth 65536 in
set_option maxHeartbeats 40000000 in
theorem kCR3 (l : Launch) (Z : State) (n0 : Nat) (a0 : Array Value) (hw : ∀ d ∈ tables_1, d.before a0 Z = true) (h : Heap)  : Con l Z n0 (⟨"java/util/BitSet", "checkRange", "(II)V"⟩ : MethodName) jdk_92_method_16_code 2 none ({ frames := 0, cells := 0, slots := 0, locals := 0 } : Room) #[(.int (0 : Int32)), (.int (3 : Int32))] h (fun v h' => v = none ∧ h = h') := by
  refine Con.mk (Ls := #[.val (.int (0 : Int32)), .val (.int (3 : Int32))]) (plainFor_of_name pn_java_util_BitSet) (ef9_ii (0 : Int32) (3 : Int32)) ?_
  intro p e s m below meth c A hret hlk hnm
  refine Goes.blk A _ b9_0_1 (pc' := 1) (Ls' := #[.val (.int (0 : Int32)), .val (.int (3 : Int32))]) (st' := [(.int (0 : Int32))]) rfl ?_
  refine Goes.if1 A d9_1 (by decide) (pc' := 31) (by decide) (fun hc1 => ?_) (fun hc => absurd (cP_t (by decide)) hc)
  refine Goes.blk A _ b9_31_1 (pc' := 32) (Ls' := #[.val (.int (0 : Int32)), .val (.int (3 : Int32))]) (st' := [(.int (3 : Int32))]) rfl ?_
  refine Goes.if1 A d9_32 (by decide) (pc' := 62) (by decide) (fun hc2 => ?_) (fun hc => absurd (cP_t (by decide)) hc)
  refine Goes.blk A _ b9_62_2 (pc' := 64) (Ls' := #[.val (.int (0 : Int32)), .val (.int (3 : Int32))]) (st' := [(.int (3 : Int32)), (.int (0 : Int32))]) rfl ?_
  refine Goes.if2 A d9_64 (by decide) (pc' := 103) (by decide) (fun hc3 => ?_) (fun hc => absurd (cP_t (by decide)) hc)
  exact Goes.retV A hret hlk d9_103 (by decide) (by decide) ⟨rfl, rfl⟩
set_option maxRecDepth 65536 in
set_option maxHeartbeats 40000000 in
theorem kCR4 (l : Launch) (Z : State) (n0 : Nat) (a0 : Array Value) (hw : ∀ d ∈ tables_1, d.before a0 Z = true) (h : Heap)  : Con l Z n0 (⟨"java/util/BitSet", "checkRange", "(II)V"⟩ : MethodName) jdk_92_method_16_code 2 none ({ frames := 0, cells := 0, slots := 0, locals := 0 } : Room) #[(.int (0 : Int32)), (.int (4 : Int32))] h (fun v h' => v = none ∧ h = h') := by
  refine Con.mk (Ls := #[.val (.int (0 : Int32)), .val (.int (4 : Int32))]) (plainFor_of_name pn_java_util_BitSet) (ef9_ii (0 : Int32) (4 : Int32)) ?_
  intro p e s m below meth c A hret hlk hnm
  refine Goes.blk A _ b9_0_1 (pc' := 1) (Ls' := #[.val (.int (0 : Int32)), .val (.int (4 : Int32))]) (st' := [(.int (0 : Int32))]) rfl ?_
  refine Goes.if1 A d9_1 (by decide) (pc' := 31) (by decide) (fun hc1 => ?_) (fun hc => absurd (cP_t (by decide)) hc)
  refine Goes.blk A _ b9_31_1 (pc' := 32) (Ls' := #[.val (.int (0 : Int32)), .val (.int (4 : Int32))]) (st' := [(.int (4 : Int32))]) rfl ?_
  refine Goes.if1 A d9_32 (by decide) (pc' := 62) (by decide) (fun hc2 => ?_) (fun hc => absurd (cP_t (by decide)) hc)
  refine Goes.blk A _ b9_62_2 (pc' := 64) (Ls' := #[.val (.int (0 : Int32)), .val (.int (4 : Int32))]) (st' := [(.int (4 : Int32)), (.int (0 : Int32))]) rfl ?_
  refine Goes.if2 A d9_64 (by decide) (pc' := 103) (by decide) (fun hc3 => ?_) (fun hc => absurd (cP_t (by decide)) hc)
  exact Goes.retV A hret hlk d9_103 (by decide) (by decide) ⟨rfl, rfl⟩
set_option maxRecDepth 65536 in
set_option maxHeartbeats 40000000 in
theorem kEC (l : Launch) (Z : State) (n0 : Nat) (a0 : Array Value) (hw : ∀ d ∈ tables_1, d.before a0 Z = true) (h : Heap) (Z0 : n0 ≤ h.size) (bs wd : Addr) (u : Int32) (w0 : Int64) (R : Rep Z a0 n0 h GB [(bs, true, .inl ("java/util/BitSet", (BSs (.ref wd) (.int u) (.int (0 : Int32))))), (wd, true, .inr (.long, [(.long w0)]))]) : Con l Z n0 (⟨"java/util/BitSet", "ensureCapacity", "(I)V"⟩ : MethodName) jdk_92_method_14_code 3 none ({ frames := 0, cells := 0, slots := 0, locals := 0 } : Room) #[(.ref bs), (.int (1 : Int32))] h (fun v h' => v = none ∧ h = h') := by
  refine Con.mk (Ls := #[.val (.ref bs), .val (.int (1 : Int32)), .unset]) (plainFor_of_name pn_java_util_BitSet) (ef11_ri bs (1 : Int32)) ?_
  intro p e s m below meth c A hret hlk hnm
  have K : Keep h h [] := Keep.refl _ _
  refine Goes.blk A _ b11_0_1 (pc' := 1) (Ls' := #[.val (.ref bs), .val (.int (1 : Int32)), .unset]) (st' := [(.ref bs)]) rfl ?_
  refine Goes.getF A (hw _ (List.mem_of_getElem? (i := 30) rfl)) Via.refl (R.fld (i := 0) (j := 0) rfl rfl) d11_1 ?_
  refine Goes.alen A R (i := 1) rfl (z := 1) (by rfl) d11_4 ?_
  refine Goes.blk A _ b11_5_1 (pc' := 6) (Ls' := #[.val (.ref bs), .val (.int (1 : Int32)), .unset]) (st' := [(.int (1 : Int32)), (.int (1 : Int32))]) rfl ?_
  refine Goes.if2 A d11_6 (by decide) (pc' := 38) (by decide) (fun hc1 => ?_) (fun hc => absurd (cP_t (by decide)) hc)
  exact Goes.retV A hret hlk d11_38 (by decide) (by decide) ⟨rfl, rfl⟩
set_option maxRecDepth 65536 in
set_option maxHeartbeats 40000000 in
theorem kET (l : Launch) (Z : State) (n0 : Nat) (a0 : Array Value) (hw : ∀ d ∈ tables_1, d.before a0 Z = true) (h : Heap) (Z0 : n0 ≤ h.size) (bs wd : Addr) (w0 : Int64) (R : Rep Z a0 n0 h GB [(bs, true, .inl ("java/util/BitSet", (BSs (.ref wd) (.int (0 : Int32)) (.int (0 : Int32))))), (wd, true, .inr (.long, [(.long w0)]))]) : Con l Z n0 (⟨"java/util/BitSet", "expandTo", "(I)V"⟩ : MethodName) jdk_92_method_15_code 3 none ({ frames := 1, cells := 0, slots := 0, locals := 14 } : Room) #[(.ref bs), (.int (0 : Int32))] h (fun v h' => v = none ∧ Keep h h' [bs] ∧ Rep Z a0 n0 h' GB [(bs, true, .inl ("java/util/BitSet", (BSs (.ref wd) (.int (1 : Int32)) (.int (0 : Int32))))), (wd, true, .inr (.long, [(.long w0)]))]) := by
  refine Con.mk (Ls := #[.val (.ref bs), .val (.int (0 : Int32)), .unset]) (plainFor_of_name pn_java_util_BitSet) (ef10_ri bs (0 : Int32)) ?_
  intro p e s m below meth c A hret hlk hnm
  have K : Keep h h [bs] := Keep.refl _ _
  refine Goes.blk A _ b10_0_5 (pc' := 5) (Ls' := #[.val (.ref bs), .val (.int (0 : Int32)), .val (.int ((0 : Int32) + (1 : Int32)))]) (st' := [(.ref bs)]) rfl ?_
  refine Goes.getF A (hw _ (List.mem_of_getElem? (i := 17) rfl)) Via.refl (R.fld (i := 0) (j := 1) rfl rfl) d10_5 ?_
  refine Goes.blk A _ b10_8_1 (pc' := 9) (Ls' := #[.val (.ref bs), .val (.int (0 : Int32)), .val (.int ((0 : Int32) + (1 : Int32)))]) (st' := [(.int ((0 : Int32) + (1 : Int32))), (.int (0 : Int32))]) rfl ?_
  refine Goes.if2 A d10_9 (by decide) (pc' := 22) (by decide) (fun hc => absurd hc (cP_f (by decide))) (fun hc1 => ?_)
  refine Goes.blk A _ b10_12_2 (pc' := 14) (Ls' := #[.val (.ref bs), .val (.int (0 : Int32)), .val (.int ((0 : Int32) + (1 : Int32)))]) (st' := [(.int ((0 : Int32) + (1 : Int32))), (.ref bs)]) rfl ?_
  refine Goes.priv A (hw _ (List.mem_of_getElem? (i := 65) rfl)) (hw _ (List.mem_of_getElem? (i := 66) rfl)) (hw _ (List.mem_of_getElem? (i := 68) rfl)) (hw _ (List.mem_of_getElem? (i := 67) rfl)) (hw _ (List.mem_of_getElem? (i := 12) rfl)) (hw _ (List.mem_of_getElem? (i := 69) rfl)) d10_14 pd_727776 (by decide) (R.exa (i := 0) rfl) (argsL := [(.int ((0 : Int32) + (1 : Int32)))]) (rest := []) rfl rfl rfl (W := 0) (Nat.le_of_ble_eq_true rfl) (by decide) (by decide) (by decide) (by decide) (kEC l Z n0 a0 hw h (Nat.le_trans Z0 K.1) bs wd 0 w0 (R.pick [0] [0, 1] rfl rfl (by decide))) (fun v hq hh => ?_)
  obtain ⟨rfl, rfl⟩ := hh
  show Goes p l e _ s m _ below meth c n0 _ h 0 0 17 #[.val (.ref bs), .val (.int (0 : Int32)), .val (.int ((0 : Int32) + (1 : Int32)))] []
  refine Goes.blk A _ b10_17_2 (pc' := 19) (Ls' := #[.val (.ref bs), .val (.int (0 : Int32)), .val (.int ((0 : Int32) + (1 : Int32)))]) (st' := [(.int ((0 : Int32) + (1 : Int32))), (.ref bs)]) rfl ?_
  refine Goes.put A (hw _ (List.mem_of_getElem? (i := 17) rfl)) Via.refl R K (i := 0) (j := 1) rfl rfl (Or.inl (List.mem_of_getElem? (i := 0) rfl)) (Or.inl (hw _ (List.mem_of_getElem? (i := 18) rfl))) (hw _ (List.mem_of_getElem? (i := 11) rfl)) (ty := .int) (by decide) rfl rfl d10_19 (fun h2 K2 R2 => ?_)
  replace R2 : Rep Z a0 n0 h2 GB [(bs, true, .inl ("java/util/BitSet", (BSs (.ref wd) (.int ((0 : Int32) + (1 : Int32))) (.int (0 : Int32))))), (wd, true, .inr (.long, [(.long w0)]))] := R2
  exact Goes.retV A hret hlk d10_22 (by decide) (by decide) ⟨rfl, K2, R2⟩
set_option maxRecDepth 65536 in
set_option maxHeartbeats 40000000 in
theorem kCI (l : Launch) (Z : State) (n0 : Nat) (a0 : Array Value) (hw : ∀ d ∈ tables_1, d.before a0 Z = true) (h : Heap) (Z0 : n0 ≤ h.size) (bs : Addr) (R : Rep Z a0 n0 h GB []) : Con l Z n0 (⟨"java/util/BitSet", "checkInvariants", "()V"⟩ : MethodName) jdk_92_method_2_code 1 none ({ frames := 0, cells := 0, slots := 0, locals := 0 } : Room) #[(.ref bs)] h (fun v h' => v = none ∧ h = h') := by
  refine Con.mk (Ls := #[.val (.ref bs)]) (plainFor_of_name pn_java_util_BitSet) (ef12_r bs) ?_
  intro p e s m below meth c A hret hlk hnm
  have K : Keep h h [] := Keep.refl _ _
  refine Goes.getS A (hw _ (List.mem_of_getElem? (i := 76) rfl)) Via.refl (R.sta (i := 0) rfl) d12_0 ?_
  refine Goes.if1 A d12_3 (by decide) (pc' := 37) (by decide) (fun hc1 => ?_) (fun hc => absurd (cP_t (by decide)) hc)
  refine Goes.getS A (hw _ (List.mem_of_getElem? (i := 76) rfl)) Via.refl (R.sta (i := 0) rfl) d12_37 ?_
  refine Goes.if1 A d12_40 (by decide) (pc' := 70) (by decide) (fun hc2 => ?_) (fun hc => absurd (cP_t (by decide)) hc)
  refine Goes.getS A (hw _ (List.mem_of_getElem? (i := 76) rfl)) Via.refl (R.sta (i := 0) rfl) d12_70 ?_
  refine Goes.if1 A d12_73 (by decide) (pc' := 110) (by decide) (fun hc3 => ?_) (fun hc => absurd (cP_t (by decide)) hc)
  exact Goes.retV A hret hlk d12_110 (by decide) (by decide) ⟨rfl, rfl⟩
set_option maxRecDepth 65536 in
set_option maxHeartbeats 40000000 in
theorem kST0 (l : Launch) (Z : State) (n0 : Nat) (a0 : Array Value) (hw : ∀ d ∈ tables_1, d.before a0 Z = true) (h : Heap) (Z0 : n0 ≤ h.size) (bs wd : Addr) (R : Rep Z a0 n0 h GB [(bs, true, .inl ("java/util/BitSet", (BSs (.ref wd) (.int (0 : Int32)) (.int (0 : Int32))))), (wd, true, .inr (.long, [(.long (0 : Int64))]))]) : Con l Z n0 (⟨"java/util/BitSet", "set", "(II)V"⟩ : MethodName) jdk_92_method_21_code 10 none ({ frames := 1, cells := 0, slots := 0, locals := 13 } : Room) #[(.ref bs), (.int (0 : Int32)), (.int (0 : Int32))] h (fun v h' => ∃ u w, (u = 0 ∨ u = 1) ∧ v = none ∧ Keep h h' [bs, wd] ∧ Rep Z a0 n0 h' GB [(bs, true, .inl ("java/util/BitSet", (BSs (.ref wd) (.int u) (.int (0 : Int32))))), (wd, true, .inr (.long, [(.long w)]))]) := by
  refine Con.mk (Ls := #[.val (.ref bs), .val (.int (0 : Int32)), .val (.int (0 : Int32)), .unset, .unset, .unset, .unset, .unset, .unset, .unset]) (plainFor_of_name pn_java_util_BitSet) (ef8_rii bs (0 : Int32) (0 : Int32)) ?_
  intro p e s m below meth c A hret hlk hnm
  have K : Keep h h [bs, wd] := Keep.refl _ _
  refine Goes.blk A _ b8_0_2 (pc' := 2) (Ls' := #[.val (.ref bs), .val (.int (0 : Int32)), .val (.int (0 : Int32)), .unset, .unset, .unset, .unset, .unset, .unset, .unset]) (st' := [(.int (0 : Int32)), (.int (0 : Int32))]) rfl ?_
  refine Goes.static A (hw _ (List.mem_of_getElem? (i := 57) rfl)) (hw _ (List.mem_of_getElem? (i := 58) rfl)) (hw _ (List.mem_of_getElem? (i := 12) rfl)) (hw _ (List.mem_of_getElem? (i := 59) rfl)) d8_2 pd_590433 (by decide) (argsL := [(.int (0 : Int32)), (.int (0 : Int32))]) (rest := []) rfl rfl rfl (W := 0) (Nat.le_of_ble_eq_true rfl) (by decide) (by decide) (by decide) (by decide) (kCR0 l Z n0 a0 hw h) (fun v hq hh => ?_)
  obtain ⟨rfl, rfl⟩ := hh
  show Goes p l e _ s m _ below meth c n0 _ h 0 0 5 #[.val (.ref bs), .val (.int (0 : Int32)), .val (.int (0 : Int32)), .unset, .unset, .unset, .unset, .unset, .unset, .unset] []
  refine Goes.blk A _ b8_5_2 (pc' := 7) (Ls' := #[.val (.ref bs), .val (.int (0 : Int32)), .val (.int (0 : Int32)), .unset, .unset, .unset, .unset, .unset, .unset, .unset]) (st' := [(.int (0 : Int32)), (.int (0 : Int32))]) rfl ?_
  refine Goes.if2 A d8_7 (by decide) (pc' := 11) (by decide) (fun hc => absurd hc (cP_f (by decide))) (fun hc1 => ?_)
  exact Goes.retV A hret hlk d8_10 (by decide) (by decide) ⟨_, _, Or.inl rfl, rfl, K, R⟩
set_option maxRecDepth 65536 in
set_option maxHeartbeats 40000000 in
theorem kST1 (l : Launch) (Z : State) (n0 : Nat) (a0 : Array Value) (hw : ∀ d ∈ tables_1, d.before a0 Z = true) (h : Heap) (Z0 : n0 ≤ h.size) (bs wd : Addr) (R : Rep Z a0 n0 h GB [(bs, true, .inl ("java/util/BitSet", (BSs (.ref wd) (.int (0 : Int32)) (.int (0 : Int32))))), (wd, true, .inr (.long, [(.long (0 : Int64))]))]) : Con l Z n0 (⟨"java/util/BitSet", "set", "(II)V"⟩ : MethodName) jdk_92_method_21_code 10 none ({ frames := 2, cells := 0, slots := 0, locals := 28 } : Room) #[(.ref bs), (.int (0 : Int32)), (.int (1 : Int32))] h (fun v h' => ∃ u w, (u = 0 ∨ u = 1) ∧ v = none ∧ Keep h h' [bs, wd] ∧ Rep Z a0 n0 h' GB [(bs, true, .inl ("java/util/BitSet", (BSs (.ref wd) (.int u) (.int (0 : Int32))))), (wd, true, .inr (.long, [(.long w)]))]) := by
  refine Con.mk (Ls := #[.val (.ref bs), .val (.int (0 : Int32)), .val (.int (1 : Int32)), .unset, .unset, .unset, .unset, .unset, .unset, .unset]) (plainFor_of_name pn_java_util_BitSet) (ef8_rii bs (0 : Int32) (1 : Int32)) ?_
  intro p e s m below meth c A hret hlk hnm
  have K : Keep h h [bs, wd] := Keep.refl _ _
  refine Goes.blk A _ b8_0_2 (pc' := 2) (Ls' := #[.val (.ref bs), .val (.int (0 : Int32)), .val (.int (1 : Int32)), .unset, .unset, .unset, .unset, .unset, .unset, .unset]) (st' := [(.int (1 : Int32)), (.int (0 : Int32))]) rfl ?_
  refine Goes.static A (hw _ (List.mem_of_getElem? (i := 57) rfl)) (hw _ (List.mem_of_getElem? (i := 58) rfl)) (hw _ (List.mem_of_getElem? (i := 12) rfl)) (hw _ (List.mem_of_getElem? (i := 59) rfl)) d8_2 pd_590433 (by decide) (argsL := [(.int (0 : Int32)), (.int (1 : Int32))]) (rest := []) rfl rfl rfl (W := 0) (Nat.le_of_ble_eq_true rfl) (by decide) (by decide) (by decide) (by decide) (kCR1 l Z n0 a0 hw h) (fun v hq hh => ?_)
  obtain ⟨rfl, rfl⟩ := hh
  show Goes p l e _ s m _ below meth c n0 _ h 0 0 5 #[.val (.ref bs), .val (.int (0 : Int32)), .val (.int (1 : Int32)), .unset, .unset, .unset, .unset, .unset, .unset, .unset] []
  refine Goes.blk A _ b8_5_2 (pc' := 7) (Ls' := #[.val (.ref bs), .val (.int (0 : Int32)), .val (.int (1 : Int32)), .unset, .unset, .unset, .unset, .unset, .unset, .unset]) (st' := [(.int (1 : Int32)), (.int (0 : Int32))]) rfl ?_
  refine Goes.if2 A d8_7 (by decide) (pc' := 11) (by decide) (fun hc1 => ?_) (fun hc => absurd (cP_t (by decide)) hc)
  refine Goes.blk A _ b8_11_1 (pc' := 12) (Ls' := #[.val (.ref bs), .val (.int (0 : Int32)), .val (.int (1 : Int32)), .unset, .unset, .unset, .unset, .unset, .unset, .unset]) (st' := [(.int (0 : Int32))]) rfl ?_
  refine Goes.static A (hw _ (List.mem_of_getElem? (i := 26) rfl)) (hw _ (List.mem_of_getElem? (i := 27) rfl)) (hw _ (List.mem_of_getElem? (i := 12) rfl)) (hw _ (List.mem_of_getElem? (i := 28) rfl)) d8_12 pd_727763 (by decide) (argsL := [(.int (0 : Int32))]) (rest := []) rfl rfl rfl (W := 0) (Nat.le_of_ble_eq_true rfl) (by decide) (by decide) (by decide) (by decide) (kWI l Z n0 a0 hw h (0 : Int32)) (fun v hq hh => ?_)
  obtain ⟨rfl, rfl⟩ := hh
  show Goes p l e _ s m _ below meth c n0 _ h 0 0 15 #[.val (.ref bs), .val (.int (0 : Int32)), .val (.int (1 : Int32)), .unset, .unset, .unset, .unset, .unset, .unset, .unset] [(.int ((0 : Int32) >>> ((6 : Int32) &&& 31)))]
  refine Goes.blk A _ b8_15_4 (pc' := 19) (Ls' := #[.val (.ref bs), .val (.int (0 : Int32)), .val (.int (1 : Int32)), .val (.int ((0 : Int32) >>> ((6 : Int32) &&& 31))), .unset, .unset, .unset, .unset, .unset, .unset]) (st' := [(.int ((1 : Int32) - (1 : Int32)))]) rfl ?_
  refine Goes.static A (hw _ (List.mem_of_getElem? (i := 26) rfl)) (hw _ (List.mem_of_getElem? (i := 27) rfl)) (hw _ (List.mem_of_getElem? (i := 12) rfl)) (hw _ (List.mem_of_getElem? (i := 28) rfl)) d8_19 pd_727763 (by decide) (argsL := [(.int ((1 : Int32) - (1 : Int32)))]) (rest := []) rfl rfl rfl (W := 0) (Nat.le_of_ble_eq_true rfl) (by decide) (by decide) (by decide) (by decide) (kWI l Z n0 a0 hw h ((1 : Int32) - (1 : Int32))) (fun v hq hh => ?_)
  obtain ⟨rfl, rfl⟩ := hh
  show Goes p l e _ s m _ below meth c n0 _ h 0 0 22 #[.val (.ref bs), .val (.int (0 : Int32)), .val (.int (1 : Int32)), .val (.int ((0 : Int32) >>> ((6 : Int32) &&& 31))), .unset, .unset, .unset, .unset, .unset, .unset] [(.int (((1 : Int32) - (1 : Int32)) >>> ((6 : Int32) &&& 31)))]
  refine Goes.blk A _ b8_22_3 (pc' := 27) (Ls' := #[.val (.ref bs), .val (.int (0 : Int32)), .val (.int (1 : Int32)), .val (.int ((0 : Int32) >>> ((6 : Int32) &&& 31))), .val (.int (((1 : Int32) - (1 : Int32)) >>> ((6 : Int32) &&& 31))), .unset, .unset, .unset, .unset, .unset]) (st' := [(.int (((1 : Int32) - (1 : Int32)) >>> ((6 : Int32) &&& 31))), (.ref bs)]) rfl ?_
  rw [show (((1 : Int32) - (1 : Int32)) >>> ((6 : Int32) &&& 31)) = 0 from by decide]
  refine Goes.priv A (hw _ (List.mem_of_getElem? (i := 60) rfl)) (hw _ (List.mem_of_getElem? (i := 61) rfl)) (hw _ (List.mem_of_getElem? (i := 63) rfl)) (hw _ (List.mem_of_getElem? (i := 62) rfl)) (hw _ (List.mem_of_getElem? (i := 12) rfl)) (hw _ (List.mem_of_getElem? (i := 64) rfl)) d8_27 pd_727776 (by decide) (R.exa (i := 0) rfl) (argsL := [(.int (0 : Int32))]) (rest := []) rfl rfl rfl (W := 0) (Nat.le_of_ble_eq_true rfl) (by decide) (by decide) (by decide) (by decide) (kET l Z n0 a0 hw h (Nat.le_trans Z0 K.1) bs wd 0 (R.pick [0] [0, 1] rfl rfl (by decide))) (fun v h2 hh => ?_)
  obtain ⟨rfl, Kc2, Rc2⟩ := hh
  have R2 := R.upd Kc2 [0, 1] Rc2 (Nat.le_of_ble_eq_true rfl) rfl [0] rfl (by decide) al0
  have K2 := K.trans Kc2 (alS (Or.inl (List.mem_of_getElem? (i := 0) rfl)) al0)
  replace R2 : Rep Z a0 n0 h2 GB [(bs, true, .inl ("java/util/BitSet", (BSs (.ref wd) (.int (1 : Int32)) (.int (0 : Int32))))), (wd, true, .inr (.long, [(.long (0 : Int64))]))] := R2
  show Goes p l e _ s m _ below meth c n0 _ h2 0 0 30 #[.val (.ref bs), .val (.int (0 : Int32)), .val (.int (1 : Int32)), .val (.int ((0 : Int32) >>> ((6 : Int32) &&& 31))), .val (.int (0 : Int32)), .unset, .unset, .unset, .unset, .unset] []
  refine Goes.ldcL A (hw _ (List.mem_of_getElem? (i := 70) rfl)) d8_30 ?_
  refine Goes.blk A _ b8_33_3 (pc' := 37) (Ls' := #[.val (.ref bs), .val (.int (0 : Int32)), .val (.int (1 : Int32)), .val (.int ((0 : Int32) >>> ((6 : Int32) &&& 31))), .val (.int (0 : Int32)), .val (.long ((-1 : Int64) <<< ((0 : Int32).toInt64 &&& 63))), .second, .unset, .unset, .unset]) (st' := []) rfl ?_
  refine Goes.ldcL A (hw _ (List.mem_of_getElem? (i := 70) rfl)) d8_37 ?_
  refine Goes.blk A _ b8_40_6 (pc' := 48) (Ls' := #[.val (.ref bs), .val (.int (0 : Int32)), .val (.int (1 : Int32)), .val (.int ((0 : Int32) >>> ((6 : Int32) &&& 31))), .val (.int (0 : Int32)), .val (.long ((-1 : Int64) <<< ((0 : Int32).toInt64 &&& 63))), .second, .val (.long (XT.ushrL (-1 : Int64) (-(1 : Int32)))), .second, .unset]) (st' := [(.int (0 : Int32)), (.int ((0 : Int32) >>> ((6 : Int32) &&& 31)))]) rfl ?_
  refine Goes.if2 A d8_48 (by decide) (pc' := 68) (by decide) (fun hc => absurd hc (cP_f (by decide))) (fun hc3 => ?_)
  refine Goes.blk A _ b8_51_1 (pc' := 52) (Ls' := #[.val (.ref bs), .val (.int (0 : Int32)), .val (.int (1 : Int32)), .val (.int ((0 : Int32) >>> ((6 : Int32) &&& 31))), .val (.int (0 : Int32)), .val (.long ((-1 : Int64) <<< ((0 : Int32).toInt64 &&& 63))), .second, .val (.long (XT.ushrL (-1 : Int64) (-(1 : Int32)))), .second, .unset]) (st' := [(.ref bs)]) rfl ?_
  refine Goes.getF A (hw _ (List.mem_of_getElem? (i := 30) rfl)) Via.refl (R2.fld (i := 0) (j := 0) rfl rfl) d8_52 ?_
  refine Goes.blk A _ b8_55_2 (pc' := 57) (Ls' := #[.val (.ref bs), .val (.int (0 : Int32)), .val (.int (1 : Int32)), .val (.int ((0 : Int32) >>> ((6 : Int32) &&& 31))), .val (.int (0 : Int32)), .val (.long ((-1 : Int64) <<< ((0 : Int32).toInt64 &&& 63))), .second, .val (.long (XT.ushrL (-1 : Int64) (-(1 : Int32)))), .second, .unset]) (st' := [(.int ((0 : Int32) >>> ((6 : Int32) &&& 31))), (.ref wd), (.int ((0 : Int32) >>> ((6 : Int32) &&& 31))), (.ref wd)]) rfl ?_
  refine Goes.laload A R2 (i := 1) rfl (k := 0) (by decide) rfl d8_57 ?_
  refine Goes.blk A _ b8_58_4 (pc' := 64) (Ls' := #[.val (.ref bs), .val (.int (0 : Int32)), .val (.int (1 : Int32)), .val (.int ((0 : Int32) >>> ((6 : Int32) &&& 31))), .val (.int (0 : Int32)), .val (.long ((-1 : Int64) <<< ((0 : Int32).toInt64 &&& 63))), .second, .val (.long (XT.ushrL (-1 : Int64) (-(1 : Int32)))), .second, .unset]) (st' := [(.long ((0 : Int64) ||| (((-1 : Int64) <<< ((0 : Int32).toInt64 &&& 63)) &&& (XT.ushrL (-1 : Int64) (-(1 : Int32)))))), (.int ((0 : Int32) >>> ((6 : Int32) &&& 31))), (.ref wd)]) rfl ?_
  refine Goes.lastore A R2 K2 (i := 1) rfl (Or.inl (List.mem_of_getElem? (i := 1) rfl)) (k := 0) (by decide) (Nat.le_of_ble_eq_true rfl) d8_64 (fun h4 K4 R4 => ?_)
  replace R4 : Rep Z a0 n0 h4 GB [(bs, true, .inl ("java/util/BitSet", (BSs (.ref wd) (.int (1 : Int32)) (.int (0 : Int32))))), (wd, true, .inr (.long, [(.long ((0 : Int64) ||| (((-1 : Int64) <<< ((0 : Int32).toInt64 &&& 63)) &&& (XT.ushrL (-1 : Int64) (-(1 : Int32))))))]))] := R4
  refine Goes.jump A d8_65 (by decide) (pc' := 119) (by decide) ?_
  refine Goes.blk A _ b8_119_1 (pc' := 120) (Ls' := #[.val (.ref bs), .val (.int (0 : Int32)), .val (.int (1 : Int32)), .val (.int ((0 : Int32) >>> ((6 : Int32) &&& 31))), .val (.int (0 : Int32)), .val (.long ((-1 : Int64) <<< ((0 : Int32).toInt64 &&& 63))), .second, .val (.long (XT.ushrL (-1 : Int64) (-(1 : Int32)))), .second, .unset]) (st' := [(.ref bs)]) rfl ?_
  refine Goes.priv A (hw _ (List.mem_of_getElem? (i := 71) rfl)) (hw _ (List.mem_of_getElem? (i := 72) rfl)) (hw _ (List.mem_of_getElem? (i := 74) rfl)) (hw _ (List.mem_of_getElem? (i := 73) rfl)) (hw _ (List.mem_of_getElem? (i := 12) rfl)) (hw _ (List.mem_of_getElem? (i := 75) rfl)) d8_120 pd_248334 (by decide) (R4.exa (i := 0) rfl) (argsL := []) (rest := []) rfl rfl rfl (W := 0) (Nat.le_of_ble_eq_true rfl) (by decide) (by decide) (by decide) (by decide) (kCI l Z n0 a0 hw h4 (Nat.le_trans Z0 K4.1) bs (R4.pick [0] [] rfl rfl (by decide))) (fun v hq hh => ?_)
  obtain ⟨rfl, rfl⟩ := hh
  show Goes p l e _ s m _ below meth c n0 _ h4 0 0 123 #[.val (.ref bs), .val (.int (0 : Int32)), .val (.int (1 : Int32)), .val (.int ((0 : Int32) >>> ((6 : Int32) &&& 31))), .val (.int (0 : Int32)), .val (.long ((-1 : Int64) <<< ((0 : Int32).toInt64 &&& 63))), .second, .val (.long (XT.ushrL (-1 : Int64) (-(1 : Int32)))), .second, .unset] []
  exact Goes.retV A hret hlk d8_123 (by decide) (by decide) ⟨_, _, Or.inr rfl, rfl, K4, R4⟩
set_option maxRecDepth 65536 in
set_option maxHeartbeats 40000000 in
theorem kST2 (l : Launch) (Z : State) (n0 : Nat) (a0 : Array Value) (hw : ∀ d ∈ tables_1, d.before a0 Z = true) (h : Heap) (Z0 : n0 ≤ h.size) (bs wd : Addr) (R : Rep Z a0 n0 h GB [(bs, true, .inl ("java/util/BitSet", (BSs (.ref wd) (.int (0 : Int32)) (.int (0 : Int32))))), (wd, true, .inr (.long, [(.long (0 : Int64))]))]) : Con l Z n0 (⟨"java/util/BitSet", "set", "(II)V"⟩ : MethodName) jdk_92_method_21_code 10 none ({ frames := 2, cells := 0, slots := 0, locals := 28 } : Room) #[(.ref bs), (.int (0 : Int32)), (.int (2 : Int32))] h (fun v h' => ∃ u w, (u = 0 ∨ u = 1) ∧ v = none ∧ Keep h h' [bs, wd] ∧ Rep Z a0 n0 h' GB [(bs, true, .inl ("java/util/BitSet", (BSs (.ref wd) (.int u) (.int (0 : Int32))))), (wd, true, .inr (.long, [(.long w)]))]) := by
  refine Con.mk (Ls := #[.val (.ref bs), .val (.int (0 : Int32)), .val (.int (2 : Int32)), .unset, .unset, .unset, .unset, .unset, .unset, .unset]) (plainFor_of_name pn_java_util_BitSet) (ef8_rii bs (0 : Int32) (2 : Int32)) ?_
  intro p e s m below meth c A hret hlk hnm
  have K : Keep h h [bs, wd] := Keep.refl _ _
  refine Goes.blk A _ b8_0_2 (pc' := 2) (Ls' := #[.val (.ref bs), .val (.int (0 : Int32)), .val (.int (2 : Int32)), .unset, .unset, .unset, .unset, .unset, .unset, .unset]) (st' := [(.int (2 : Int32)), (.int (0 : Int32))]) rfl ?_
  refine Goes.static A (hw _ (List.mem_of_getElem? (i := 57) rfl)) (hw _ (List.mem_of_getElem? (i := 58) rfl)) (hw _ (List.mem_of_getElem? (i := 12) rfl)) (hw _ (List.mem_of_getElem? (i := 59) rfl)) d8_2 pd_590433 (by decide) (argsL := [(.int (0 : Int32)), (.int (2 : Int32))]) (rest := []) rfl rfl rfl (W := 0) (Nat.le_of_ble_eq_true rfl) (by decide) (by decide) (by decide) (by decide) (kCR2 l Z n0 a0 hw h) (fun v hq hh => ?_)
  obtain ⟨rfl, rfl⟩ := hh
  show Goes p l e _ s m _ below meth c n0 _ h 0 0 5 #[.val (.ref bs), .val (.int (0 : Int32)), .val (.int (2 : Int32)), .unset, .unset, .unset, .unset, .unset, .unset, .unset] []
  refine Goes.blk A _ b8_5_2 (pc' := 7) (Ls' := #[.val (.ref bs), .val (.int (0 : Int32)), .val (.int (2 : Int32)), .unset, .unset, .unset, .unset, .unset, .unset, .unset]) (st' := [(.int (2 : Int32)), (.int (0 : Int32))]) rfl ?_
  refine Goes.if2 A d8_7 (by decide) (pc' := 11) (by decide) (fun hc1 => ?_) (fun hc => absurd (cP_t (by decide)) hc)
  refine Goes.blk A _ b8_11_1 (pc' := 12) (Ls' := #[.val (.ref bs), .val (.int (0 : Int32)), .val (.int (2 : Int32)), .unset, .unset, .unset, .unset, .unset, .unset, .unset]) (st' := [(.int (0 : Int32))]) rfl ?_
  refine Goes.static A (hw _ (List.mem_of_getElem? (i := 26) rfl)) (hw _ (List.mem_of_getElem? (i := 27) rfl)) (hw _ (List.mem_of_getElem? (i := 12) rfl)) (hw _ (List.mem_of_getElem? (i := 28) rfl)) d8_12 pd_727763 (by decide) (argsL := [(.int (0 : Int32))]) (rest := []) rfl rfl rfl (W := 0) (Nat.le_of_ble_eq_true rfl) (by decide) (by decide) (by decide) (by decide) (kWI l Z n0 a0 hw h (0 : Int32)) (fun v hq hh => ?_)
  obtain ⟨rfl, rfl⟩ := hh
  show Goes p l e _ s m _ below meth c n0 _ h 0 0 15 #[.val (.ref bs), .val (.int (0 : Int32)), .val (.int (2 : Int32)), .unset, .unset, .unset, .unset, .unset, .unset, .unset] [(.int ((0 : Int32) >>> ((6 : Int32) &&& 31)))]
  refine Goes.blk A _ b8_15_4 (pc' := 19) (Ls' := #[.val (.ref bs), .val (.int (0 : Int32)), .val (.int (2 : Int32)), .val (.int ((0 : Int32) >>> ((6 : Int32) &&& 31))), .unset, .unset, .unset, .unset, .unset, .unset]) (st' := [(.int ((2 : Int32) - (1 : Int32)))]) rfl ?_
  refine Goes.static A (hw _ (List.mem_of_getElem? (i := 26) rfl)) (hw _ (List.mem_of_getElem? (i := 27) rfl)) (hw _ (List.mem_of_getElem? (i := 12) rfl)) (hw _ (List.mem_of_getElem? (i := 28) rfl)) d8_19 pd_727763 (by decide) (argsL := [(.int ((2 : Int32) - (1 : Int32)))]) (rest := []) rfl rfl rfl (W := 0) (Nat.le_of_ble_eq_true rfl) (by decide) (by decide) (by decide) (by decide) (kWI l Z n0 a0 hw h ((2 : Int32) - (1 : Int32))) (fun v hq hh => ?_)
  obtain ⟨rfl, rfl⟩ := hh
  show Goes p l e _ s m _ below meth c n0 _ h 0 0 22 #[.val (.ref bs), .val (.int (0 : Int32)), .val (.int (2 : Int32)), .val (.int ((0 : Int32) >>> ((6 : Int32) &&& 31))), .unset, .unset, .unset, .unset, .unset, .unset] [(.int (((2 : Int32) - (1 : Int32)) >>> ((6 : Int32) &&& 31)))]
  refine Goes.blk A _ b8_22_3 (pc' := 27) (Ls' := #[.val (.ref bs), .val (.int (0 : Int32)), .val (.int (2 : Int32)), .val (.int ((0 : Int32) >>> ((6 : Int32) &&& 31))), .val (.int (((2 : Int32) - (1 : Int32)) >>> ((6 : Int32) &&& 31))), .unset, .unset, .unset, .unset, .unset]) (st' := [(.int (((2 : Int32) - (1 : Int32)) >>> ((6 : Int32) &&& 31))), (.ref bs)]) rfl ?_
  rw [show (((2 : Int32) - (1 : Int32)) >>> ((6 : Int32) &&& 31)) = 0 from by decide]
  refine Goes.priv A (hw _ (List.mem_of_getElem? (i := 60) rfl)) (hw _ (List.mem_of_getElem? (i := 61) rfl)) (hw _ (List.mem_of_getElem? (i := 63) rfl)) (hw _ (List.mem_of_getElem? (i := 62) rfl)) (hw _ (List.mem_of_getElem? (i := 12) rfl)) (hw _ (List.mem_of_getElem? (i := 64) rfl)) d8_27 pd_727776 (by decide) (R.exa (i := 0) rfl) (argsL := [(.int (0 : Int32))]) (rest := []) rfl rfl rfl (W := 0) (Nat.le_of_ble_eq_true rfl) (by decide) (by decide) (by decide) (by decide) (kET l Z n0 a0 hw h (Nat.le_trans Z0 K.1) bs wd 0 (R.pick [0] [0, 1] rfl rfl (by decide))) (fun v h2 hh => ?_)
  obtain ⟨rfl, Kc2, Rc2⟩ := hh
  have R2 := R.upd Kc2 [0, 1] Rc2 (Nat.le_of_ble_eq_true rfl) rfl [0] rfl (by decide) al0
  have K2 := K.trans Kc2 (alS (Or.inl (List.mem_of_getElem? (i := 0) rfl)) al0)
  replace R2 : Rep Z a0 n0 h2 GB [(bs, true, .inl ("java/util/BitSet", (BSs (.ref wd) (.int (1 : Int32)) (.int (0 : Int32))))), (wd, true, .inr (.long, [(.long (0 : Int64))]))] := R2
  show Goes p l e _ s m _ below meth c n0 _ h2 0 0 30 #[.val (.ref bs), .val (.int (0 : Int32)), .val (.int (2 : Int32)), .val (.int ((0 : Int32) >>> ((6 : Int32) &&& 31))), .val (.int (0 : Int32)), .unset, .unset, .unset, .unset, .unset] []
  refine Goes.ldcL A (hw _ (List.mem_of_getElem? (i := 70) rfl)) d8_30 ?_
  refine Goes.blk A _ b8_33_3 (pc' := 37) (Ls' := #[.val (.ref bs), .val (.int (0 : Int32)), .val (.int (2 : Int32)), .val (.int ((0 : Int32) >>> ((6 : Int32) &&& 31))), .val (.int (0 : Int32)), .val (.long ((-1 : Int64) <<< ((0 : Int32).toInt64 &&& 63))), .second, .unset, .unset, .unset]) (st' := []) rfl ?_
  refine Goes.ldcL A (hw _ (List.mem_of_getElem? (i := 70) rfl)) d8_37 ?_
  refine Goes.blk A _ b8_40_6 (pc' := 48) (Ls' := #[.val (.ref bs), .val (.int (0 : Int32)), .val (.int (2 : Int32)), .val (.int ((0 : Int32) >>> ((6 : Int32) &&& 31))), .val (.int (0 : Int32)), .val (.long ((-1 : Int64) <<< ((0 : Int32).toInt64 &&& 63))), .second, .val (.long (XT.ushrL (-1 : Int64) (-(2 : Int32)))), .second, .unset]) (st' := [(.int (0 : Int32)), (.int ((0 : Int32) >>> ((6 : Int32) &&& 31)))]) rfl ?_
  refine Goes.if2 A d8_48 (by decide) (pc' := 68) (by decide) (fun hc => absurd hc (cP_f (by decide))) (fun hc3 => ?_)
  refine Goes.blk A _ b8_51_1 (pc' := 52) (Ls' := #[.val (.ref bs), .val (.int (0 : Int32)), .val (.int (2 : Int32)), .val (.int ((0 : Int32) >>> ((6 : Int32) &&& 31))), .val (.int (0 : Int32)), .val (.long ((-1 : Int64) <<< ((0 : Int32).toInt64 &&& 63))), .second, .val (.long (XT.ushrL (-1 : Int64) (-(2 : Int32)))), .second, .unset]) (st' := [(.ref bs)]) rfl ?_
  refine Goes.getF A (hw _ (List.mem_of_getElem? (i := 30) rfl)) Via.refl (R2.fld (i := 0) (j := 0) rfl rfl) d8_52 ?_
  refine Goes.blk A _ b8_55_2 (pc' := 57) (Ls' := #[.val (.ref bs), .val (.int (0 : Int32)), .val (.int (2 : Int32)), .val (.int ((0 : Int32) >>> ((6 : Int32) &&& 31))), .val (.int (0 : Int32)), .val (.long ((-1 : Int64) <<< ((0 : Int32).toInt64 &&& 63))), .second, .val (.long (XT.ushrL (-1 : Int64) (-(2 : Int32)))), .second, .unset]) (st' := [(.int ((0 : Int32) >>> ((6 : Int32) &&& 31))), (.ref wd), (.int ((0 : Int32) >>> ((6 : Int32) &&& 31))), (.ref wd)]) rfl ?_
  refine Goes.laload A R2 (i := 1) rfl (k := 0) (by decide) rfl d8_57 ?_
  refine Goes.blk A _ b8_58_4 (pc' := 64) (Ls' := #[.val (.ref bs), .val (.int (0 : Int32)), .val (.int (2 : Int32)), .val (.int ((0 : Int32) >>> ((6 : Int32) &&& 31))), .val (.int (0 : Int32)), .val (.long ((-1 : Int64) <<< ((0 : Int32).toInt64 &&& 63))), .second, .val (.long (XT.ushrL (-1 : Int64) (-(2 : Int32)))), .second, .unset]) (st' := [(.long ((0 : Int64) ||| (((-1 : Int64) <<< ((0 : Int32).toInt64 &&& 63)) &&& (XT.ushrL (-1 : Int64) (-(2 : Int32)))))), (.int ((0 : Int32) >>> ((6 : Int32) &&& 31))), (.ref wd)]) rfl ?_
  refine Goes.lastore A R2 K2 (i := 1) rfl (Or.inl (List.mem_of_getElem? (i := 1) rfl)) (k := 0) (by decide) (Nat.le_of_ble_eq_true rfl) d8_64 (fun h4 K4 R4 => ?_)
  replace R4 : Rep Z a0 n0 h4 GB [(bs, true, .inl ("java/util/BitSet", (BSs (.ref wd) (.int (1 : Int32)) (.int (0 : Int32))))), (wd, true, .inr (.long, [(.long ((0 : Int64) ||| (((-1 : Int64) <<< ((0 : Int32).toInt64 &&& 63)) &&& (XT.ushrL (-1 : Int64) (-(2 : Int32))))))]))] := R4
  refine Goes.jump A d8_65 (by decide) (pc' := 119) (by decide) ?_
  refine Goes.blk A _ b8_119_1 (pc' := 120) (Ls' := #[.val (.ref bs), .val (.int (0 : Int32)), .val (.int (2 : Int32)), .val (.int ((0 : Int32) >>> ((6 : Int32) &&& 31))), .val (.int (0 : Int32)), .val (.long ((-1 : Int64) <<< ((0 : Int32).toInt64 &&& 63))), .second, .val (.long (XT.ushrL (-1 : Int64) (-(2 : Int32)))), .second, .unset]) (st' := [(.ref bs)]) rfl ?_
  refine Goes.priv A (hw _ (List.mem_of_getElem? (i := 71) rfl)) (hw _ (List.mem_of_getElem? (i := 72) rfl)) (hw _ (List.mem_of_getElem? (i := 74) rfl)) (hw _ (List.mem_of_getElem? (i := 73) rfl)) (hw _ (List.mem_of_getElem? (i := 12) rfl)) (hw _ (List.mem_of_getElem? (i := 75) rfl)) d8_120 pd_248334 (by decide) (R4.exa (i := 0) rfl) (argsL := []) (rest := []) rfl rfl rfl (W := 0) (Nat.le_of_ble_eq_true rfl) (by decide) (by decide) (by decide) (by decide) (kCI l Z n0 a0 hw h4 (Nat.le_trans Z0 K4.1) bs (R4.pick [0] [] rfl rfl (by decide))) (fun v hq hh => ?_)
  obtain ⟨rfl, rfl⟩ := hh
  show Goes p l e _ s m _ below meth c n0 _ h4 0 0 123 #[.val (.ref bs), .val (.int (0 : Int32)), .val (.int (2 : Int32)), .val (.int ((0 : Int32) >>> ((6 : Int32) &&& 31))), .val (.int (0 : Int32)), .val (.long ((-1 : Int64) <<< ((0 : Int32).toInt64 &&& 63))), .second, .val (.long (XT.ushrL (-1 : Int64) (-(2 : Int32)))), .second, .unset] []
  exact Goes.retV A hret hlk d8_123 (by decide) (by decide) ⟨_, _, Or.inr rfl, rfl, K4, R4⟩
set_option maxRecDepth 65536 in
set_option maxHeartbeats 40000000 in
theorem kST3 (l : Launch) (Z : State) (n0 : Nat) (a0 : Array Value) (hw : ∀ d ∈ tables_1, d.before a0 Z = true) (h : Heap) (Z0 : n0 ≤ h.size) (bs wd : Addr) (R : Rep Z a0 n0 h GB [(bs, true, .inl ("java/util/BitSet", (BSs (.ref wd) (.int (0 : Int32)) (.int (0 : Int32))))), (wd, true, .inr (.long, [(.long (0 : Int64))]))]) : Con l Z n0 (⟨"java/util/BitSet", "set", "(II)V"⟩ : MethodName) jdk_92_method_21_code 10 none ({ frames := 2, cells := 0, slots := 0, locals := 28 } : Room) #[(.ref bs), (.int (0 : Int32)), (.int (3 : Int32))] h (fun v h' => ∃ u w, (u = 0 ∨ u = 1) ∧ v = none ∧ Keep h h' [bs, wd] ∧ Rep Z a0 n0 h' GB [(bs, true, .inl ("java/util/BitSet", (BSs (.ref wd) (.int u) (.int (0 : Int32))))), (wd, true, .inr (.long, [(.long w)]))]) := by
  refine Con.mk (Ls := #[.val (.ref bs), .val (.int (0 : Int32)), .val (.int (3 : Int32)), .unset, .unset, .unset, .unset, .unset, .unset, .unset]) (plainFor_of_name pn_java_util_BitSet) (ef8_rii bs (0 : Int32) (3 : Int32)) ?_
  intro p e s m below meth c A hret hlk hnm
  have K : Keep h h [bs, wd] := Keep.refl _ _
  refine Goes.blk A _ b8_0_2 (pc' := 2) (Ls' := #[.val (.ref bs), .val (.int (0 : Int32)), .val (.int (3 : Int32)), .unset, .unset, .unset, .unset, .unset, .unset, .unset]) (st' := [(.int (3 : Int32)), (.int (0 : Int32))]) rfl ?_
  refine Goes.static A (hw _ (List.mem_of_getElem? (i := 57) rfl)) (hw _ (List.mem_of_getElem? (i := 58) rfl)) (hw _ (List.mem_of_getElem? (i := 12) rfl)) (hw _ (List.mem_of_getElem? (i := 59) rfl)) d8_2 pd_590433 (by decide) (argsL := [(.int (0 : Int32)), (.int (3 : Int32))]) (rest := []) rfl rfl rfl (W := 0) (Nat.le_of_ble_eq_true rfl) (by decide) (by decide) (by decide) (by decide) (kCR3 l Z n0 a0 hw h) (fun v hq hh => ?_)
  obtain ⟨rfl, rfl⟩ := hh
  show Goes p l e _ s m _ below meth c n0 _ h 0 0 5 #[.val (.ref bs), .val (.int (0 : Int32)), .val (.int (3 : Int32)), .unset, .unset, .unset, .unset, .unset, .unset, .unset] []
  refine Goes.blk A _ b8_5_2 (pc' := 7) (Ls' := #[.val (.ref bs), .val (.int (0 : Int32)), .val (.int (3 : Int32)), .unset, .unset, .unset, .unset, .unset, .unset, .unset]) (st' := [(.int (3 : Int32)), (.int (0 : Int32))]) rfl ?_
  refine Goes.if2 A d8_7 (by decide) (pc' := 11) (by decide) (fun hc1 => ?_) (fun hc => absurd (cP_t (by decide)) hc)
  refine Goes.blk A _ b8_11_1 (pc' := 12) (Ls' := #[.val (.ref bs), .val (.int (0 : Int32)), .val (.int (3 : Int32)), .unset, .unset, .unset, .unset, .unset, .unset, .unset]) (st' := [(.int (0 : Int32))]) rfl ?_
  refine Goes.static A (hw _ (List.mem_of_getElem? (i := 26) rfl)) (hw _ (List.mem_of_getElem? (i := 27) rfl)) (hw _ (List.mem_of_getElem? (i := 12) rfl)) (hw _ (List.mem_of_getElem? (i := 28) rfl)) d8_12 pd_727763 (by decide) (argsL := [(.int (0 : Int32))]) (rest := []) rfl rfl rfl (W := 0) (Nat.le_of_ble_eq_true rfl) (by decide) (by decide) (by decide) (by decide) (kWI l Z n0 a0 hw h (0 : Int32)) (fun v hq hh => ?_)
  obtain ⟨rfl, rfl⟩ := hh
  show Goes p l e _ s m _ below meth c n0 _ h 0 0 15 #[.val (.ref bs), .val (.int (0 : Int32)), .val (.int (3 : Int32)), .unset, .unset, .unset, .unset, .unset, .unset, .unset] [(.int ((0 : Int32) >>> ((6 : Int32) &&& 31)))]
  refine Goes.blk A _ b8_15_4 (pc' := 19) (Ls' := #[.val (.ref bs), .val (.int (0 : Int32)), .val (.int (3 : Int32)), .val (.int ((0 : Int32) >>> ((6 : Int32) &&& 31))), .unset, .unset, .unset, .unset, .unset, .unset]) (st' := [(.int ((3 : Int32) - (1 : Int32)))]) rfl ?_
  refine Goes.static A (hw _ (List.mem_of_getElem? (i := 26) rfl)) (hw _ (List.mem_of_getElem? (i := 27) rfl)) (hw _ (List.mem_of_getElem? (i := 12) rfl)) (hw _ (List.mem_of_getElem? (i := 28) rfl)) d8_19 pd_727763 (by decide) (argsL := [(.int ((3 : Int32) - (1 : Int32)))]) (rest := []) rfl rfl rfl (W := 0) (Nat.le_of_ble_eq_true rfl) (by decide) (by decide) (by decide) (by decide) (kWI l Z n0 a0 hw h ((3 : Int32) - (1 : Int32))) (fun v hq hh => ?_)
  obtain ⟨rfl, rfl⟩ := hh
  show Goes p l e _ s m _ below meth c n0 _ h 0 0 22 #[.val (.ref bs), .val (.int (0 : Int32)), .val (.int (3 : Int32)), .val (.int ((0 : Int32) >>> ((6 : Int32) &&& 31))), .unset, .unset, .unset, .unset, .unset, .unset] [(.int (((3 : Int32) - (1 : Int32)) >>> ((6 : Int32) &&& 31)))]
  refine Goes.blk A _ b8_22_3 (pc' := 27) (Ls' := #[.val (.ref bs), .val (.int (0 : Int32)), .val (.int (3 : Int32)), .val (.int ((0 : Int32) >>> ((6 : Int32) &&& 31))), .val (.int (((3 : Int32) - (1 : Int32)) >>> ((6 : Int32) &&& 31))), .unset, .unset, .unset, .unset, .unset]) (st' := [(.int (((3 : Int32) - (1 : Int32)) >>> ((6 : Int32) &&& 31))), (.ref bs)]) rfl ?_
  rw [show (((3 : Int32) - (1 : Int32)) >>> ((6 : Int32) &&& 31)) = 0 from by decide]
  refine Goes.priv A (hw _ (List.mem_of_getElem? (i := 60) rfl)) (hw _ (List.mem_of_getElem? (i := 61) rfl)) (hw _ (List.mem_of_getElem? (i := 63) rfl)) (hw _ (List.mem_of_getElem? (i := 62) rfl)) (hw _ (List.mem_of_getElem? (i := 12) rfl)) (hw _ (List.mem_of_getElem? (i := 64) rfl)) d8_27 pd_727776 (by decide) (R.exa (i := 0) rfl) (argsL := [(.int (0 : Int32))]) (rest := []) rfl rfl rfl (W := 0) (Nat.le_of_ble_eq_true rfl) (by decide) (by decide) (by decide) (by decide) (kET l Z n0 a0 hw h (Nat.le_trans Z0 K.1) bs wd 0 (R.pick [0] [0, 1] rfl rfl (by decide))) (fun v h2 hh => ?_)
  obtain ⟨rfl, Kc2, Rc2⟩ := hh
  have R2 := R.upd Kc2 [0, 1] Rc2 (Nat.le_of_ble_eq_true rfl) rfl [0] rfl (by decide) al0
  have K2 := K.trans Kc2 (alS (Or.inl (List.mem_of_getElem? (i := 0) rfl)) al0)
  replace R2 : Rep Z a0 n0 h2 GB [(bs, true, .inl ("java/util/BitSet", (BSs (.ref wd) (.int (1 : Int32)) (.int (0 : Int32))))), (wd, true, .inr (.long, [(.long (0 : Int64))]))] := R2
  show Goes p l e _ s m _ below meth c n0 _ h2 0 0 30 #[.val (.ref bs), .val (.int (0 : Int32)), .val (.int (3 : Int32)), .val (.int ((0 : Int32) >>> ((6 : Int32) &&& 31))), .val (.int (0 : Int32)), .unset, .unset, .unset, .unset, .unset] []
  refine Goes.ldcL A (hw _ (List.mem_of_getElem? (i := 70) rfl)) d8_30 ?_
  refine Goes.blk A _ b8_33_3 (pc' := 37) (Ls' := #[.val (.ref bs), .val (.int (0 : Int32)), .val (.int (3 : Int32)), .val (.int ((0 : Int32) >>> ((6 : Int32) &&& 31))), .val (.int (0 : Int32)), .val (.long ((-1 : Int64) <<< ((0 : Int32).toInt64 &&& 63))), .second, .unset, .unset, .unset]) (st' := []) rfl ?_
  refine Goes.ldcL A (hw _ (List.mem_of_getElem? (i := 70) rfl)) d8_37 ?_
  refine Goes.blk A _ b8_40_6 (pc' := 48) (Ls' := #[.val (.ref bs), .val (.int (0 : Int32)), .val (.int (3 : Int32)), .val (.int ((0 : Int32) >>> ((6 : Int32) &&& 31))), .val (.int (0 : Int32)), .val (.long ((-1 : Int64) <<< ((0 : Int32).toInt64 &&& 63))), .second, .val (.long (XT.ushrL (-1 : Int64) (-(3 : Int32)))), .second, .unset]) (st' := [(.int (0 : Int32)), (.int ((0 : Int32) >>> ((6 : Int32) &&& 31)))]) rfl ?_
  refine Goes.if2 A d8_48 (by decide) (pc' := 68) (by decide) (fun hc => absurd hc (cP_f (by decide))) (fun hc3 => ?_)
  refine Goes.blk A _ b8_51_1 (pc' := 52) (Ls' := #[.val (.ref bs), .val (.int (0 : Int32)), .val (.int (3 : Int32)), .val (.int ((0 : Int32) >>> ((6 : Int32) &&& 31))), .val (.int (0 : Int32)), .val (.long ((-1 : Int64) <<< ((0 : Int32).toInt64 &&& 63))), .second, .val (.long (XT.ushrL (-1 : Int64) (-(3 : Int32)))), .second, .unset]) (st' := [(.ref bs)]) rfl ?_
  refine Goes.getF A (hw _ (List.mem_of_getElem? (i := 30) rfl)) Via.refl (R2.fld (i := 0) (j := 0) rfl rfl) d8_52 ?_
  refine Goes.blk A _ b8_55_2 (pc' := 57) (Ls' := #[.val (.ref bs), .val (.int (0 : Int32)), .val (.int (3 : Int32)), .val (.int ((0 : Int32) >>> ((6 : Int32) &&& 31))), .val (.int (0 : Int32)), .val (.long ((-1 : Int64) <<< ((0 : Int32).toInt64 &&& 63))), .second, .val (.long (XT.ushrL (-1 : Int64) (-(3 : Int32)))), .second, .unset]) (st' := [(.int ((0 : Int32) >>> ((6 : Int32) &&& 31))), (.ref wd), (.int ((0 : Int32) >>> ((6 : Int32) &&& 31))), (.ref wd)]) rfl ?_
  refine Goes.laload A R2 (i := 1) rfl (k := 0) (by decide) rfl d8_57 ?_
  refine Goes.blk A _ b8_58_4 (pc' := 64) (Ls' := #[.val (.ref bs), .val (.int (0 : Int32)), .val (.int (3 : Int32)), .val (.int ((0 : Int32) >>> ((6 : Int32) &&& 31))), .val (.int (0 : Int32)), .val (.long ((-1 : Int64) <<< ((0 : Int32).toInt64 &&& 63))), .second, .val (.long (XT.ushrL (-1 : Int64) (-(3 : Int32)))), .second, .unset]) (st' := [(.long ((0 : Int64) ||| (((-1 : Int64) <<< ((0 : Int32).toInt64 &&& 63)) &&& (XT.ushrL (-1 : Int64) (-(3 : Int32)))))), (.int ((0 : Int32) >>> ((6 : Int32) &&& 31))), (.ref wd)]) rfl ?_
  refine Goes.lastore A R2 K2 (i := 1) rfl (Or.inl (List.mem_of_getElem? (i := 1) rfl)) (k := 0) (by decide) (Nat.le_of_ble_eq_true rfl) d8_64 (fun h4 K4 R4 => ?_)
  replace R4 : Rep Z a0 n0 h4 GB [(bs, true, .inl ("java/util/BitSet", (BSs (.ref wd) (.int (1 : Int32)) (.int (0 : Int32))))), (wd, true, .inr (.long, [(.long ((0 : Int64) ||| (((-1 : Int64) <<< ((0 : Int32).toInt64 &&& 63)) &&& (XT.ushrL (-1 : Int64) (-(3 : Int32))))))]))] := R4
  refine Goes.jump A d8_65 (by decide) (pc' := 119) (by decide) ?_
  refine Goes.blk A _ b8_119_1 (pc' := 120) (Ls' := #[.val (.ref bs), .val (.int (0 : Int32)), .val (.int (3 : Int32)), .val (.int ((0 : Int32) >>> ((6 : Int32) &&& 31))), .val (.int (0 : Int32)), .val (.long ((-1 : Int64) <<< ((0 : Int32).toInt64 &&& 63))), .second, .val (.long (XT.ushrL (-1 : Int64) (-(3 : Int32)))), .second, .unset]) (st' := [(.ref bs)]) rfl ?_
  refine Goes.priv A (hw _ (List.mem_of_getElem? (i := 71) rfl)) (hw _ (List.mem_of_getElem? (i := 72) rfl)) (hw _ (List.mem_of_getElem? (i := 74) rfl)) (hw _ (List.mem_of_getElem? (i := 73) rfl)) (hw _ (List.mem_of_getElem? (i := 12) rfl)) (hw _ (List.mem_of_getElem? (i := 75) rfl)) d8_120 pd_248334 (by decide) (R4.exa (i := 0) rfl) (argsL := []) (rest := []) rfl rfl rfl (W := 0) (Nat.le_of_ble_eq_true rfl) (by decide) (by decide) (by decide) (by decide) (kCI l Z n0 a0 hw h4 (Nat.le_trans Z0 K4.1) bs (R4.pick [0] [] rfl rfl (by decide))) (fun v hq hh => ?_)
  obtain ⟨rfl, rfl⟩ := hh
  show Goes p l e _ s m _ below meth c n0 _ h4 0 0 123 #[.val (.ref bs), .val (.int (0 : Int32)), .val (.int (3 : Int32)), .val (.int ((0 : Int32) >>> ((6 : Int32) &&& 31))), .val (.int (0 : Int32)), .val (.long ((-1 : Int64) <<< ((0 : Int32).toInt64 &&& 63))), .second, .val (.long (XT.ushrL (-1 : Int64) (-(3 : Int32)))), .second, .unset] []
  exact Goes.retV A hret hlk d8_123 (by decide) (by decide) ⟨_, _, Or.inr rfl, rfl, K4, R4⟩
set_option maxRecDepth 65536 in
set_option maxHeartbeats 40000000 in
theorem kST4 (l : Launch) (Z : State) (n0 : Nat) (a0 : Array Value) (hw : ∀ d ∈ tables_1, d.before a0 Z = true) (h : Heap) (Z0 : n0 ≤ h.size) (bs wd : Addr) (R : Rep Z a0 n0 h GB [(bs, true, .inl ("java/util/BitSet", (BSs (.ref wd) (.int (0 : Int32)) (.int (0 : Int32))))), (wd, true, .inr (.long, [(.long (0 : Int64))]))]) : Con l Z n0 (⟨"java/util/BitSet", "set", "(II)V"⟩ : MethodName) jdk_92_method_21_code 10 none ({ frames := 2, cells := 0, slots := 0, locals := 28 } : Room) #[(.ref bs), (.int (0 : Int32)), (.int (4 : Int32))] h (fun v h' => ∃ u w, (u = 0 ∨ u = 1) ∧ v = none ∧ Keep h h' [bs, wd] ∧ Rep Z a0 n0 h' GB [(bs, true, .inl ("java/util/BitSet", (BSs (.ref wd) (.int u) (.int (0 : Int32))))), (wd, true, .inr (.long, [(.long w)]))]) := by
  refine Con.mk (Ls := #[.val (.ref bs), .val (.int (0 : Int32)), .val (.int (4 : Int32)), .unset, .unset, .unset, .unset, .unset, .unset, .unset]) (plainFor_of_name pn_java_util_BitSet) (ef8_rii bs (0 : Int32) (4 : Int32)) ?_
  intro p e s m below meth c A hret hlk hnm
  have K : Keep h h [bs, wd] := Keep.refl _ _
  refine Goes.blk A _ b8_0_2 (pc' := 2) (Ls' := #[.val (.ref bs), .val (.int (0 : Int32)), .val (.int (4 : Int32)), .unset, .unset, .unset, .unset, .unset, .unset, .unset]) (st' := [(.int (4 : Int32)), (.int (0 : Int32))]) rfl ?_
  refine Goes.static A (hw _ (List.mem_of_getElem? (i := 57) rfl)) (hw _ (List.mem_of_getElem? (i := 58) rfl)) (hw _ (List.mem_of_getElem? (i := 12) rfl)) (hw _ (List.mem_of_getElem? (i := 59) rfl)) d8_2 pd_590433 (by decide) (argsL := [(.int (0 : Int32)), (.int (4 : Int32))]) (rest := []) rfl rfl rfl (W := 0) (Nat.le_of_ble_eq_true rfl) (by decide) (by decide) (by decide) (by decide) (kCR4 l Z n0 a0 hw h) (fun v hq hh => ?_)
  obtain ⟨rfl, rfl⟩ := hh
  show Goes p l e _ s m _ below meth c n0 _ h 0 0 5 #[.val (.ref bs), .val (.int (0 : Int32)), .val (.int (4 : Int32)), .unset, .unset, .unset, .unset, .unset, .unset, .unset] []
  refine Goes.blk A _ b8_5_2 (pc' := 7) (Ls' := #[.val (.ref bs), .val (.int (0 : Int32)), .val (.int (4 : Int32)), .unset, .unset, .unset, .unset, .unset, .unset, .unset]) (st' := [(.int (4 : Int32)), (.int (0 : Int32))]) rfl ?_
  refine Goes.if2 A d8_7 (by decide) (pc' := 11) (by decide) (fun hc1 => ?_) (fun hc => absurd (cP_t (by decide)) hc)
  refine Goes.blk A _ b8_11_1 (pc' := 12) (Ls' := #[.val (.ref bs), .val (.int (0 : Int32)), .val (.int (4 : Int32)), .unset, .unset, .unset, .unset, .unset, .unset, .unset]) (st' := [(.int (0 : Int32))]) rfl ?_
  refine Goes.static A (hw _ (List.mem_of_getElem? (i := 26) rfl)) (hw _ (List.mem_of_getElem? (i := 27) rfl)) (hw _ (List.mem_of_getElem? (i := 12) rfl)) (hw _ (List.mem_of_getElem? (i := 28) rfl)) d8_12 pd_727763 (by decide) (argsL := [(.int (0 : Int32))]) (rest := []) rfl rfl rfl (W := 0) (Nat.le_of_ble_eq_true rfl) (by decide) (by decide) (by decide) (by decide) (kWI l Z n0 a0 hw h (0 : Int32)) (fun v hq hh => ?_)
  obtain ⟨rfl, rfl⟩ := hh
  show Goes p l e _ s m _ below meth c n0 _ h 0 0 15 #[.val (.ref bs), .val (.int (0 : Int32)), .val (.int (4 : Int32)), .unset, .unset, .unset, .unset, .unset, .unset, .unset] [(.int ((0 : Int32) >>> ((6 : Int32) &&& 31)))]
  refine Goes.blk A _ b8_15_4 (pc' := 19) (Ls' := #[.val (.ref bs), .val (.int (0 : Int32)), .val (.int (4 : Int32)), .val (.int ((0 : Int32) >>> ((6 : Int32) &&& 31))), .unset, .unset, .unset, .unset, .unset, .unset]) (st' := [(.int ((4 : Int32) - (1 : Int32)))]) rfl ?_
  refine Goes.static A (hw _ (List.mem_of_getElem? (i := 26) rfl)) (hw _ (List.mem_of_getElem? (i := 27) rfl)) (hw _ (List.mem_of_getElem? (i := 12) rfl)) (hw _ (List.mem_of_getElem? (i := 28) rfl)) d8_19 pd_727763 (by decide) (argsL := [(.int ((4 : Int32) - (1 : Int32)))]) (rest := []) rfl rfl rfl (W := 0) (Nat.le_of_ble_eq_true rfl) (by decide) (by decide) (by decide) (by decide) (kWI l Z n0 a0 hw h ((4 : Int32) - (1 : Int32))) (fun v hq hh => ?_)
  obtain ⟨rfl, rfl⟩ := hh
  show Goes p l e _ s m _ below meth c n0 _ h 0 0 22 #[.val (.ref bs), .val (.int (0 : Int32)), .val (.int (4 : Int32)), .val (.int ((0 : Int32) >>> ((6 : Int32) &&& 31))), .unset, .unset, .unset, .unset, .unset, .unset] [(.int (((4 : Int32) - (1 : Int32)) >>> ((6 : Int32) &&& 31)))]
  refine Goes.blk A _ b8_22_3 (pc' := 27) (Ls' := #[.val (.ref bs), .val (.int (0 : Int32)), .val (.int (4 : Int32)), .val (.int ((0 : Int32) >>> ((6 : Int32) &&& 31))), .val (.int (((4 : Int32) - (1 : Int32)) >>> ((6 : Int32) &&& 31))), .unset, .unset, .unset, .unset, .unset]) (st' := [(.int (((4 : Int32) - (1 : Int32)) >>> ((6 : Int32) &&& 31))), (.ref bs)]) rfl ?_
  rw [show (((4 : Int32) - (1 : Int32)) >>> ((6 : Int32) &&& 31)) = 0 from by decide]
  refine Goes.priv A (hw _ (List.mem_of_getElem? (i := 60) rfl)) (hw _ (List.mem_of_getElem? (i := 61) rfl)) (hw _ (List.mem_of_getElem? (i := 63) rfl)) (hw _ (List.mem_of_getElem? (i := 62) rfl)) (hw _ (List.mem_of_getElem? (i := 12) rfl)) (hw _ (List.mem_of_getElem? (i := 64) rfl)) d8_27 pd_727776 (by decide) (R.exa (i := 0) rfl) (argsL := [(.int (0 : Int32))]) (rest := []) rfl rfl rfl (W := 0) (Nat.le_of_ble_eq_true rfl) (by decide) (by decide) (by decide) (by decide) (kET l Z n0 a0 hw h (Nat.le_trans Z0 K.1) bs wd 0 (R.pick [0] [0, 1] rfl rfl (by decide))) (fun v h2 hh => ?_)
  obtain ⟨rfl, Kc2, Rc2⟩ := hh
  have R2 := R.upd Kc2 [0, 1] Rc2 (Nat.le_of_ble_eq_true rfl) rfl [0] rfl (by decide) al0
  have K2 := K.trans Kc2 (alS (Or.inl (List.mem_of_getElem? (i := 0) rfl)) al0)
  replace R2 : Rep Z a0 n0 h2 GB [(bs, true, .inl ("java/util/BitSet", (BSs (.ref wd) (.int (1 : Int32)) (.int (0 : Int32))))), (wd, true, .inr (.long, [(.long (0 : Int64))]))] := R2
  show Goes p l e _ s m _ below meth c n0 _ h2 0 0 30 #[.val (.ref bs), .val (.int (0 : Int32)), .val (.int (4 : Int32)), .val (.int ((0 : Int32) >>> ((6 : Int32) &&& 31))), .val (.int (0 : Int32)), .unset, .unset, .unset, .unset, .unset] []
  refine Goes.ldcL A (hw _ (List.mem_of_getElem? (i := 70) rfl)) d8_30 ?_
  refine Goes.blk A _ b8_33_3 (pc' := 37) (Ls' := #[.val (.ref bs), .val (.int (0 : Int32)), .val (.int (4 : Int32)), .val (.int ((0 : Int32) >>> ((6 : Int32) &&& 31))), .val (.int (0 : Int32)), .val (.long ((-1 : Int64) <<< ((0 : Int32).toInt64 &&& 63))), .second, .unset, .unset, .unset]) (st' := []) rfl ?_
  refine Goes.ldcL A (hw _ (List.mem_of_getElem? (i := 70) rfl)) d8_37 ?_
  refine Goes.blk A _ b8_40_6 (pc' := 48) (Ls' := #[.val (.ref bs), .val (.int (0 : Int32)), .val (.int (4 : Int32)), .val (.int ((0 : Int32) >>> ((6 : Int32) &&& 31))), .val (.int (0 : Int32)), .val (.long ((-1 : Int64) <<< ((0 : Int32).toInt64 &&& 63))), .second, .val (.long (XT.ushrL (-1 : Int64) (-(4 : Int32)))), .second, .unset]) (st' := [(.int (0 : Int32)), (.int ((0 : Int32) >>> ((6 : Int32) &&& 31)))]) rfl ?_
  refine Goes.if2 A d8_48 (by decide) (pc' := 68) (by decide) (fun hc => absurd hc (cP_f (by decide))) (fun hc3 => ?_)
  refine Goes.blk A _ b8_51_1 (pc' := 52) (Ls' := #[.val (.ref bs), .val (.int (0 : Int32)), .val (.int (4 : Int32)), .val (.int ((0 : Int32) >>> ((6 : Int32) &&& 31))), .val (.int (0 : Int32)), .val (.long ((-1 : Int64) <<< ((0 : Int32).toInt64 &&& 63))), .second, .val (.long (XT.ushrL (-1 : Int64) (-(4 : Int32)))), .second, .unset]) (st' := [(.ref bs)]) rfl ?_
  refine Goes.getF A (hw _ (List.mem_of_getElem? (i := 30) rfl)) Via.refl (R2.fld (i := 0) (j := 0) rfl rfl) d8_52 ?_
  refine Goes.blk A _ b8_55_2 (pc' := 57) (Ls' := #[.val (.ref bs), .val (.int (0 : Int32)), .val (.int (4 : Int32)), .val (.int ((0 : Int32) >>> ((6 : Int32) &&& 31))), .val (.int (0 : Int32)), .val (.long ((-1 : Int64) <<< ((0 : Int32).toInt64 &&& 63))), .second, .val (.long (XT.ushrL (-1 : Int64) (-(4 : Int32)))), .second, .unset]) (st' := [(.int ((0 : Int32) >>> ((6 : Int32) &&& 31))), (.ref wd), (.int ((0 : Int32) >>> ((6 : Int32) &&& 31))), (.ref wd)]) rfl ?_
  refine Goes.laload A R2 (i := 1) rfl (k := 0) (by decide) rfl d8_57 ?_
  refine Goes.blk A _ b8_58_4 (pc' := 64) (Ls' := #[.val (.ref bs), .val (.int (0 : Int32)), .val (.int (4 : Int32)), .val (.int ((0 : Int32) >>> ((6 : Int32) &&& 31))), .val (.int (0 : Int32)), .val (.long ((-1 : Int64) <<< ((0 : Int32).toInt64 &&& 63))), .second, .val (.long (XT.ushrL (-1 : Int64) (-(4 : Int32)))), .second, .unset]) (st' := [(.long ((0 : Int64) ||| (((-1 : Int64) <<< ((0 : Int32).toInt64 &&& 63)) &&& (XT.ushrL (-1 : Int64) (-(4 : Int32)))))), (.int ((0 : Int32) >>> ((6 : Int32) &&& 31))), (.ref wd)]) rfl ?_
  refine Goes.lastore A R2 K2 (i := 1) rfl (Or.inl (List.mem_of_getElem? (i := 1) rfl)) (k := 0) (by decide) (Nat.le_of_ble_eq_true rfl) d8_64 (fun h4 K4 R4 => ?_)
  replace R4 : Rep Z a0 n0 h4 GB [(bs, true, .inl ("java/util/BitSet", (BSs (.ref wd) (.int (1 : Int32)) (.int (0 : Int32))))), (wd, true, .inr (.long, [(.long ((0 : Int64) ||| (((-1 : Int64) <<< ((0 : Int32).toInt64 &&& 63)) &&& (XT.ushrL (-1 : Int64) (-(4 : Int32))))))]))] := R4
  refine Goes.jump A d8_65 (by decide) (pc' := 119) (by decide) ?_
  refine Goes.blk A _ b8_119_1 (pc' := 120) (Ls' := #[.val (.ref bs), .val (.int (0 : Int32)), .val (.int (4 : Int32)), .val (.int ((0 : Int32) >>> ((6 : Int32) &&& 31))), .val (.int (0 : Int32)), .val (.long ((-1 : Int64) <<< ((0 : Int32).toInt64 &&& 63))), .second, .val (.long (XT.ushrL (-1 : Int64) (-(4 : Int32)))), .second, .unset]) (st' := [(.ref bs)]) rfl ?_
  refine Goes.priv A (hw _ (List.mem_of_getElem? (i := 71) rfl)) (hw _ (List.mem_of_getElem? (i := 72) rfl)) (hw _ (List.mem_of_getElem? (i := 74) rfl)) (hw _ (List.mem_of_getElem? (i := 73) rfl)) (hw _ (List.mem_of_getElem? (i := 12) rfl)) (hw _ (List.mem_of_getElem? (i := 75) rfl)) d8_120 pd_248334 (by decide) (R4.exa (i := 0) rfl) (argsL := []) (rest := []) rfl rfl rfl (W := 0) (Nat.le_of_ble_eq_true rfl) (by decide) (by decide) (by decide) (by decide) (kCI l Z n0 a0 hw h4 (Nat.le_trans Z0 K4.1) bs (R4.pick [0] [] rfl rfl (by decide))) (fun v hq hh => ?_)
  obtain ⟨rfl, rfl⟩ := hh
  show Goes p l e _ s m _ below meth c n0 _ h4 0 0 123 #[.val (.ref bs), .val (.int (0 : Int32)), .val (.int (4 : Int32)), .val (.int ((0 : Int32) >>> ((6 : Int32) &&& 31))), .val (.int (0 : Int32)), .val (.long ((-1 : Int64) <<< ((0 : Int32).toInt64 &&& 63))), .second, .val (.long (XT.ushrL (-1 : Int64) (-(4 : Int32)))), .second, .unset] []
  exact Goes.retV A hret hlk d8_123 (by decide) (by decide) ⟨_, _, Or.inr rfl, rfl, K4, R4⟩
set_option maxRecDepth 65536 in
set_option maxHeartbeats 40000000 in
theorem kRW (l : Launch) (Z : State) (n0 : Nat) (a0 : Array Value) (hw : ∀ d ∈ tables_1, d.before a0 Z = true) (h : Heap) (Z0 : n0 ≤ h.size) (bs wd : Addr) (w0 : Int64) (R : Rep Z a0 n0 h GB [(bs, true, .inl ("java/util/BitSet", (BSs (.ref wd) (.int (1 : Int32)) (.int (0 : Int32))))), (wd, true, .inr (.long, [(.long w0)]))]) : Con l Z n0 (⟨"java/util/BitSet", "recalculateWordsInUse", "()V"⟩ : MethodName) jdk_92_method_3_code 2 none ({ frames := 0, cells := 0, slots := 0, locals := 0 } : Room) #[(.ref bs)] h (fun v h' => ∃ u, (u = 0 ∨ u = 1) ∧ v = none ∧ Keep h h' [bs] ∧ Rep Z a0 n0 h' GB [(bs, true, .inl ("java/util/BitSet", (BSs (.ref wd) (.int u) (.int (0 : Int32))))), (wd, true, .inr (.long, [(.long w0)]))]) := by
  refine Con.mk (Ls := #[.val (.ref bs), .unset]) (plainFor_of_name pn_java_util_BitSet) (ef17_r bs) ?_
  intro p e s m below meth c A hret hlk hnm
  have K : Keep h h [bs] := Keep.refl _ _
  refine Goes.blk A _ b17_0_1 (pc' := 1) (Ls' := #[.val (.ref bs), .unset]) (st' := [(.ref bs)]) rfl ?_
  refine Goes.getF A (hw _ (List.mem_of_getElem? (i := 17) rfl)) Via.refl (R.fld (i := 0) (j := 1) rfl rfl) d17_1 ?_
  refine Goes.blk A _ b17_4_4 (pc' := 8) (Ls' := #[.val (.ref bs), .val (.int ((1 : Int32) - (1 : Int32)))]) (st' := [(.int ((1 : Int32) - (1 : Int32)))]) rfl ?_
  refine Goes.if1 A d17_8 (by decide) (pc' := 31) (by decide) (fun hc => absurd hc (cP_f (by decide))) (fun hc1 => ?_)
  refine Goes.blk A _ b17_11_1 (pc' := 12) (Ls' := #[.val (.ref bs), .val (.int ((1 : Int32) - (1 : Int32)))]) (st' := [(.ref bs)]) rfl ?_
  refine Goes.getF A (hw _ (List.mem_of_getElem? (i := 30) rfl)) Via.refl (R.fld (i := 0) (j := 0) rfl rfl) d17_12 ?_
  refine Goes.blk A _ b17_15_1 (pc' := 16) (Ls' := #[.val (.ref bs), .val (.int ((1 : Int32) - (1 : Int32)))]) (st' := [(.int ((1 : Int32) - (1 : Int32))), (.ref wd)]) rfl ?_
  refine Goes.laload A R (i := 1) rfl (k := 0) (by decide) rfl d17_16 ?_
  refine Goes.blk A _ b17_17_2 (pc' := 19) (Ls' := #[.val (.ref bs), .val (.int ((1 : Int32) - (1 : Int32)))]) (st' := [(.int (XT.cmpL w0 (0 : Int64)))]) rfl ?_
  refine Goes.if1 A d17_19 (by decide) (pc' := 25) (by decide) (fun hc2 => ?_) (fun hc2 => ?_)
  · skip
    refine Goes.blk A _ b17_25_1 (pc' := 28) (Ls' := #[.val (.ref bs), .val (.int (((1 : Int32) - (1 : Int32)) + (-1 : Int32)))]) (st' := []) rfl ?_
    refine Goes.jump A d17_28 (by decide) (pc' := 7) (by decide) ?_
    refine Goes.blk A _ b17_7_1 (pc' := 8) (Ls' := #[.val (.ref bs), .val (.int (((1 : Int32) - (1 : Int32)) + (-1 : Int32)))]) (st' := [(.int (((1 : Int32) - (1 : Int32)) + (-1 : Int32)))]) rfl ?_
    refine Goes.if1 A d17_8 (by decide) (pc' := 31) (by decide) (fun hc3 => ?_) (fun hc => absurd (cP_t (by decide)) hc)
    refine Goes.blk A _ b17_31_4 (pc' := 35) (Ls' := #[.val (.ref bs), .val (.int (((1 : Int32) - (1 : Int32)) + (-1 : Int32)))]) (st' := [(.int ((((1 : Int32) - (1 : Int32)) + (-1 : Int32)) + (1 : Int32))), (.ref bs)]) rfl ?_
    refine Goes.put A (hw _ (List.mem_of_getElem? (i := 17) rfl)) Via.refl R K (i := 0) (j := 1) rfl rfl (Or.inl (List.mem_of_getElem? (i := 0) rfl)) (Or.inl (hw _ (List.mem_of_getElem? (i := 18) rfl))) (hw _ (List.mem_of_getElem? (i := 11) rfl)) (ty := .int) (by decide) rfl rfl d17_35 (fun h4 K4 R4 => ?_)
    replace R4 : Rep Z a0 n0 h4 GB [(bs, true, .inl ("java/util/BitSet", (BSs (.ref wd) (.int ((((1 : Int32) - (1 : Int32)) + (-1 : Int32)) + (1 : Int32))) (.int (0 : Int32))))), (wd, true, .inr (.long, [(.long w0)]))] := R4
    exact Goes.retV A hret hlk d17_38 (by decide) (by decide) ⟨_, Or.inl (by decide), rfl, K4, R4⟩
  refine Goes.jump A d17_22 (by decide) (pc' := 31) (by decide) ?_
  refine Goes.blk A _ b17_31_4 (pc' := 35) (Ls' := #[.val (.ref bs), .val (.int ((1 : Int32) - (1 : Int32)))]) (st' := [(.int (((1 : Int32) - (1 : Int32)) + (1 : Int32))), (.ref bs)]) rfl ?_
  refine Goes.put A (hw _ (List.mem_of_getElem? (i := 17) rfl)) Via.refl R K (i := 0) (j := 1) rfl rfl (Or.inl (List.mem_of_getElem? (i := 0) rfl)) (Or.inl (hw _ (List.mem_of_getElem? (i := 18) rfl))) (hw _ (List.mem_of_getElem? (i := 11) rfl)) (ty := .int) (by decide) rfl rfl d17_35 (fun h5 K5 R5 => ?_)
  replace R5 : Rep Z a0 n0 h5 GB [(bs, true, .inl ("java/util/BitSet", (BSs (.ref wd) (.int (((1 : Int32) - (1 : Int32)) + (1 : Int32))) (.int (0 : Int32))))), (wd, true, .inr (.long, [(.long w0)]))] := R5
  exact Goes.retV A hret hlk d17_38 (by decide) (by decide) ⟨_, Or.inr (by decide), rfl, K5, R5⟩
set_option maxRecDepth 65536 in
set_option maxHeartbeats 40000000 in
theorem kCL0 (l : Launch) (Z : State) (n0 : Nat) (a0 : Array Value) (hw : ∀ d ∈ tables_1, d.before a0 Z = true) (h : Heap) (Z0 : n0 ≤ h.size) (bs wd : Addr) (w0 : Int64) (i : Int32) (h0 : 0 ≤ i.toInt) (h6 : (i >>> ((6 : Int32) &&& 31)) = (0 : Int32)) (R : Rep Z a0 n0 h GB [(bs, true, .inl ("java/util/BitSet", (BSs (.ref wd) (.int (0 : Int32)) (.int (0 : Int32))))), (wd, true, .inr (.long, [(.long w0)]))]) : Con l Z n0 (⟨"java/util/BitSet", "clear", "(I)V"⟩ : MethodName) jdk_92_method_23_code 3 none ({ frames := 1, cells := 0, slots := 0, locals := 12 } : Room) #[(.ref bs), (.int i)] h (fun v h' => ∃ u w, (u = 0 ∨ u = 1) ∧ v = none ∧ Keep h h' [bs, wd] ∧ Rep Z a0 n0 h' GB [(bs, true, .inl ("java/util/BitSet", (BSs (.ref wd) (.int u) (.int (0 : Int32))))), (wd, true, .inr (.long, [(.long w)]))]) := by
  refine Con.mk (Ls := #[.val (.ref bs), .val (.int i), .unset]) (plainFor_of_name pn_java_util_BitSet) (ef16_ri bs i) ?_
  intro p e s m below meth c A hret hlk hnm
  have K : Keep h h [bs, wd] := Keep.refl _ _
  have l_0 : (0 : Int32).toInt = 0 := by decide
  refine Goes.blk A _ b16_0_1 (pc' := 1) (Ls' := #[.val (.ref bs), .val (.int i), .unset]) (st' := [(.int i)]) rfl ?_
  refine Goes.if1 A d16_1 (by decide) (pc' := 31) (by decide) (fun hc1 => ?_) (fun hc => (by have q9 := cP_nint hc; simp only [cI] at q9; omega))
  refine Goes.blk A _ b16_31_1 (pc' := 32) (Ls' := #[.val (.ref bs), .val (.int i), .unset]) (st' := [(.int i)]) rfl ?_
  refine Goes.static A (hw _ (List.mem_of_getElem? (i := 26) rfl)) (hw _ (List.mem_of_getElem? (i := 27) rfl)) (hw _ (List.mem_of_getElem? (i := 12) rfl)) (hw _ (List.mem_of_getElem? (i := 28) rfl)) d16_32 pd_727763 (by decide) (argsL := [(.int i)]) (rest := []) rfl rfl rfl (W := 0) (Nat.le_of_ble_eq_true rfl) (by decide) (by decide) (by decide) (by decide) (kWI l Z n0 a0 hw h i) (fun v hq hh => ?_)
  obtain ⟨rfl, rfl⟩ := hh
  show Goes p l e _ s m _ below meth c n0 _ h 0 0 35 #[.val (.ref bs), .val (.int i), .unset] [(.int (i >>> ((6 : Int32) &&& 31)))]
  rw [h6]
  refine Goes.blk A _ b16_35_3 (pc' := 38) (Ls' := #[.val (.ref bs), .val (.int i), .val (.int (0 : Int32))]) (st' := [(.ref bs), (.int (0 : Int32))]) rfl ?_
  refine Goes.getF A (hw _ (List.mem_of_getElem? (i := 17) rfl)) Via.refl (R.fld (i := 0) (j := 1) rfl rfl) d16_38 ?_
  refine Goes.if2 A d16_41 (by decide) (pc' := 45) (by decide) (fun hc => absurd hc (cP_f (by decide))) (fun hc2 => ?_)
  exact Goes.retV A hret hlk d16_44 (by decide) (by decide) ⟨_, _, Or.inl rfl, rfl, K, R⟩
set_option maxRecDepth 65536 in
set_option maxHeartbeats 40000000 in
theorem kCL1 (l : Launch) (Z : State) (n0 : Nat) (a0 : Array Value) (hw : ∀ d ∈ tables_1, d.before a0 Z = true) (h : Heap) (Z0 : n0 ≤ h.size) (bs wd : Addr) (w0 : Int64) (i : Int32) (h0 : 0 ≤ i.toInt) (h6 : (i >>> ((6 : Int32) &&& 31)) = (0 : Int32)) (R : Rep Z a0 n0 h GB [(bs, true, .inl ("java/util/BitSet", (BSs (.ref wd) (.int (1 : Int32)) (.int (0 : Int32))))), (wd, true, .inr (.long, [(.long w0)]))]) : Con l Z n0 (⟨"java/util/BitSet", "clear", "(I)V"⟩ : MethodName) jdk_92_method_23_code 3 none ({ frames := 1, cells := 0, slots := 0, locals := 13 } : Room) #[(.ref bs), (.int i)] h (fun v h' => ∃ u w, (u = 0 ∨ u = 1) ∧ v = none ∧ Keep h h' [bs, wd] ∧ Rep Z a0 n0 h' GB [(bs, true, .inl ("java/util/BitSet", (BSs (.ref wd) (.int u) (.int (0 : Int32))))), (wd, true, .inr (.long, [(.long w)]))]) := by
  refine Con.mk (Ls := #[.val (.ref bs), .val (.int i), .unset]) (plainFor_of_name pn_java_util_BitSet) (ef16_ri bs i) ?_
  intro p e s m below meth c A hret hlk hnm
  have K : Keep h h [bs, wd] := Keep.refl _ _
  have l_0 : (0 : Int32).toInt = 0 := by decide
  refine Goes.blk A _ b16_0_1 (pc' := 1) (Ls' := #[.val (.ref bs), .val (.int i), .unset]) (st' := [(.int i)]) rfl ?_
  refine Goes.if1 A d16_1 (by decide) (pc' := 31) (by decide) (fun hc1 => ?_) (fun hc => (by have q9 := cP_nint hc; simp only [cI] at q9; omega))
  refine Goes.blk A _ b16_31_1 (pc' := 32) (Ls' := #[.val (.ref bs), .val (.int i), .unset]) (st' := [(.int i)]) rfl ?_
  refine Goes.static A (hw _ (List.mem_of_getElem? (i := 26) rfl)) (hw _ (List.mem_of_getElem? (i := 27) rfl)) (hw _ (List.mem_of_getElem? (i := 12) rfl)) (hw _ (List.mem_of_getElem? (i := 28) rfl)) d16_32 pd_727763 (by decide) (argsL := [(.int i)]) (rest := []) rfl rfl rfl (W := 0) (Nat.le_of_ble_eq_true rfl) (by decide) (by decide) (by decide) (by decide) (kWI l Z n0 a0 hw h i) (fun v hq hh => ?_)
  obtain ⟨rfl, rfl⟩ := hh
  show Goes p l e _ s m _ below meth c n0 _ h 0 0 35 #[.val (.ref bs), .val (.int i), .unset] [(.int (i >>> ((6 : Int32) &&& 31)))]
  rw [h6]
  refine Goes.blk A _ b16_35_3 (pc' := 38) (Ls' := #[.val (.ref bs), .val (.int i), .val (.int (0 : Int32))]) (st' := [(.ref bs), (.int (0 : Int32))]) rfl ?_
  refine Goes.getF A (hw _ (List.mem_of_getElem? (i := 17) rfl)) Via.refl (R.fld (i := 0) (j := 1) rfl rfl) d16_38 ?_
  refine Goes.if2 A d16_41 (by decide) (pc' := 45) (by decide) (fun hc2 => ?_) (fun hc => absurd (cP_t (by decide)) hc)
  refine Goes.blk A _ b16_45_1 (pc' := 46) (Ls' := #[.val (.ref bs), .val (.int i), .val (.int (0 : Int32))]) (st' := [(.ref bs)]) rfl ?_
  refine Goes.getF A (hw _ (List.mem_of_getElem? (i := 30) rfl)) Via.refl (R.fld (i := 0) (j := 0) rfl rfl) d16_46 ?_
  refine Goes.blk A _ b16_49_2 (pc' := 51) (Ls' := #[.val (.ref bs), .val (.int i), .val (.int (0 : Int32))]) (st' := [(.int (0 : Int32)), (.ref wd), (.int (0 : Int32)), (.ref wd)]) rfl ?_
  refine Goes.laload A R (i := 1) rfl (k := 0) (by decide) rfl d16_51 ?_
  refine Goes.blk A _ b16_52_3 (pc' := 55) (Ls' := #[.val (.ref bs), .val (.int i), .val (.int (0 : Int32))]) (st' := [(.long ((1 : Int64) <<< (i.toInt64 &&& 63))), (.long w0), (.int (0 : Int32)), (.ref wd)]) rfl ?_
  refine Goes.ldcL A (hw _ (List.mem_of_getElem? (i := 70) rfl)) d16_55 ?_
  refine Goes.blk A _ b16_58_2 (pc' := 60) (Ls' := #[.val (.ref bs), .val (.int i), .val (.int (0 : Int32))]) (st' := [(.long (w0 &&& (((1 : Int64) <<< (i.toInt64 &&& 63)) ^^^ (-1 : Int64)))), (.int (0 : Int32)), (.ref wd)]) rfl ?_
  refine Goes.lastore A R K (i := 1) rfl (Or.inl (List.mem_of_getElem? (i := 1) rfl)) (k := 0) (by decide) (Nat.le_of_ble_eq_true rfl) d16_60 (fun h3 K3 R3 => ?_)
  replace R3 : Rep Z a0 n0 h3 GB [(bs, true, .inl ("java/util/BitSet", (BSs (.ref wd) (.int (1 : Int32)) (.int (0 : Int32))))), (wd, true, .inr (.long, [(.long (w0 &&& (((1 : Int64) <<< (i.toInt64 &&& 63)) ^^^ (-1 : Int64))))]))] := R3
  refine Goes.blk A _ b16_61_1 (pc' := 62) (Ls' := #[.val (.ref bs), .val (.int i), .val (.int (0 : Int32))]) (st' := [(.ref bs)]) rfl ?_
  refine Goes.priv A (hw _ (List.mem_of_getElem? (i := 98) rfl)) (hw _ (List.mem_of_getElem? (i := 99) rfl)) (hw _ (List.mem_of_getElem? (i := 101) rfl)) (hw _ (List.mem_of_getElem? (i := 100) rfl)) (hw _ (List.mem_of_getElem? (i := 12) rfl)) (hw _ (List.mem_of_getElem? (i := 102) rfl)) d16_62 pd_248334 (by decide) (R3.exa (i := 0) rfl) (argsL := []) (rest := []) rfl rfl rfl (W := 0) (Nat.le_of_ble_eq_true rfl) (by decide) (by decide) (by decide) (by decide) (kRW l Z n0 a0 hw h3 (Nat.le_trans Z0 K3.1) bs wd (w0 &&& (((1 : Int64) <<< (i.toInt64 &&& 63)) ^^^ (-1 : Int64))) (R3.pick [0] [0, 1] rfl rfl (by decide))) (fun v h4 hh => ?_)
  obtain ⟨u, hu, rfl, Kc4, Rc4⟩ := hh
  have R4 := R3.upd Kc4 [0, 1] Rc4 (Nat.le_of_ble_eq_true rfl) rfl [0] rfl (by decide) al0
  have K4 := K3.trans Kc4 (alS (Or.inl (List.mem_of_getElem? (i := 0) rfl)) al0)
  replace R4 : Rep Z a0 n0 h4 GB [(bs, true, .inl ("java/util/BitSet", (BSs (.ref wd) (.int u) (.int (0 : Int32))))), (wd, true, .inr (.long, [(.long (w0 &&& (((1 : Int64) <<< (i.toInt64 &&& 63)) ^^^ (-1 : Int64))))]))] := R4
  show Goes p l e _ s m _ below meth c n0 _ h4 0 0 65 #[.val (.ref bs), .val (.int i), .val (.int (0 : Int32))] []
  refine Goes.blk A _ b16_65_1 (pc' := 66) (Ls' := #[.val (.ref bs), .val (.int i), .val (.int (0 : Int32))]) (st' := [(.ref bs)]) rfl ?_
  refine Goes.priv A (hw _ (List.mem_of_getElem? (i := 71) rfl)) (hw _ (List.mem_of_getElem? (i := 72) rfl)) (hw _ (List.mem_of_getElem? (i := 74) rfl)) (hw _ (List.mem_of_getElem? (i := 73) rfl)) (hw _ (List.mem_of_getElem? (i := 12) rfl)) (hw _ (List.mem_of_getElem? (i := 75) rfl)) d16_66 pd_248334 (by decide) (R4.exa (i := 0) rfl) (argsL := []) (rest := []) rfl rfl rfl (W := 0) (Nat.le_of_ble_eq_true rfl) (by decide) (by decide) (by decide) (by decide) (kCI l Z n0 a0 hw h4 (Nat.le_trans Z0 K4.1) bs (R4.pick [0] [] rfl rfl (by decide))) (fun v hq hh => ?_)
  obtain ⟨rfl, rfl⟩ := hh
  show Goes p l e _ s m _ below meth c n0 _ h4 0 0 69 #[.val (.ref bs), .val (.int i), .val (.int (0 : Int32))] []
  exact Goes.retV A hret hlk d16_69 (by decide) (by decide) ⟨_, _, hu, rfl, K4, R4⟩
set_option maxRecDepth 65536 in
set_option maxHeartbeats 40000000 in
theorem kME (l : Launch) (Z : State) (n0 : Nat) (a0 : Array Value) (hw : ∀ d ∈ tables_1, d.before a0 Z = true) (h : Heap) (Z0 : n0 ≤ h.size) (cg bg st po bs : Addr) (i : Int32) (R : Rep Z a0 n0 h GB [(cg, true, .inl ("com/example/stillpoint/stillpoint/spec/CallGroups", (CGs (.ref bg) (.ref st) (.ref po) (.ref bs) .null .null .null)))]) : Con l Z n0 (⟨"com/example/stillpoint/stillpoint/spec/CallGroups", "mend", "(I)V"⟩ : MethodName) prog_81_method_5_code 4 none ({ frames := 0, cells := 0, slots := 0, locals := 0 } : Room) #[(.ref cg), (.int i)] h (fun v h' => v = none ∧ h = h') := by
  refine Con.mk (Ls := #[.val (.ref cg), .val (.int i), .unset, .unset]) (plainFor_of_name pn_com_example_stillpoint_stillpoint_spec_CallGroups) (ef18_ri cg i) ?_
  intro p e s m below meth c A hret hlk hnm
  have K : Keep h h [] := Keep.refl _ _
  refine Goes.blk A _ b18_0_1 (pc' := 1) (Ls' := #[.val (.ref cg), .val (.int i), .unset, .unset]) (st' := [(.ref cg)]) rfl ?_
  refine Goes.getF A (hw _ (List.mem_of_getElem? (i := 107) rfl)) Via.refl (R.fld (i := 0) (j := 5) rfl rfl) d18_1 ?_
  refine Goes.ifNullY A d18_4 (by decide) (pc' := 37) (by decide) ?_
  refine Goes.blk A _ b18_37_1 (pc' := 38) (Ls' := #[.val (.ref cg), .val (.int i), .unset, .unset]) (st' := [(.ref cg)]) rfl ?_
  refine Goes.getF A (hw _ (List.mem_of_getElem? (i := 109) rfl)) Via.refl (R.fld (i := 0) (j := 6) rfl rfl) d18_38 ?_
  refine Goes.ifNullY A d18_41 (by decide) (pc' := 81) (by decide) ?_
  exact Goes.retV A hret hlk d18_81 (by decide) (by decide) ⟨rfl, rfl⟩
set_option maxRecDepth 65536 in
set_option maxHeartbeats 40000000 in
theorem kPL0 (l : Launch) (Z : State) (n0 : Nat) (a0 : Array Value) (hw : ∀ d ∈ tables_1, d.before a0 Z = true) (h : Heap) (Z0 : n0 ≤ h.size) (cg bg st po bs wd : Addr) (w0 : Int64) (PL : List Value) (k q : Int32) (n : Nat) (hn : k.toInt = n) (hp : PL[n]? = some (.int q)) (h6 : 0 ≤ q.toInt → (q >>> ((6 : Int32) &&& 31)) = (0 : Int32)) (R : Rep Z a0 n0 h GB [(cg, true, .inl ("com/example/stillpoint/stillpoint/spec/CallGroups", (CGs (.ref bg) (.ref st) (.ref po) (.ref bs) .null .null .null))), (po, true, .inr (.int, PL)), (bs, true, .inl ("java/util/BitSet", (BSs (.ref wd) (.int (0 : Int32)) (.int (0 : Int32))))), (wd, true, .inr (.long, [(.long w0)]))]) : Con l Z n0 (⟨"com/example/stillpoint/stillpoint/spec/CallGroups", "place", "(I)V"⟩ : MethodName) prog_81_method_3_code 2 none ({ frames := 2, cells := 0, slots := 0, locals := 27 } : Room) #[(.ref cg), (.int k)] h (fun v h' => ∃ u w, (u = 0 ∨ u = 1) ∧ v = none ∧ Keep h h' [bs, wd] ∧ Rep Z a0 n0 h' GB [(cg, true, .inl ("com/example/stillpoint/stillpoint/spec/CallGroups", (CGs (.ref bg) (.ref st) (.ref po) (.ref bs) .null .null .null))), (po, true, .inr (.int, PL)), (bs, true, .inl ("java/util/BitSet", (BSs (.ref wd) (.int u) (.int (0 : Int32))))), (wd, true, .inr (.long, [(.long w)]))]) := by
  refine Con.mk (Ls := #[.val (.ref cg), .val (.int k)]) (plainFor_of_name pn_com_example_stillpoint_stillpoint_spec_CallGroups) (ef15_ri cg k) ?_
  intro p e s m below meth c A hret hlk hnm
  have K : Keep h h [bs, wd] := Keep.refl _ _
  have l_0 : (0 : Int32).toInt = 0 := by decide
  refine Goes.blk A _ b15_0_1 (pc' := 1) (Ls' := #[.val (.ref cg), .val (.int k)]) (st' := [(.ref cg)]) rfl ?_
  refine Goes.getF A (hw _ (List.mem_of_getElem? (i := 38) rfl)) Via.refl (R.fld (i := 0) (j := 2) rfl rfl) d15_1 ?_
  refine Goes.blk A _ b15_4_1 (pc' := 5) (Ls' := #[.val (.ref cg), .val (.int k)]) (st' := [(.int k), (.ref po)]) rfl ?_
  refine Goes.iaload A R (i := 1) rfl (k := n) hn hp d15_5 ?_
  refine Goes.if1 A d15_6 (by decide) (pc' := 32) (by decide) (fun hc1 => ?_) (fun hc1 => ?_)
  · skip
    exact Goes.retV A hret hlk d15_32 (by decide) (by decide) ⟨_, _, Or.inl rfl, rfl, K, R⟩
  have q9 := cP_nint hc1
  simp only [cI] at q9
  have q0 : 0 ≤ q.toInt := by omega
  refine Goes.blk A _ b15_9_1 (pc' := 10) (Ls' := #[.val (.ref cg), .val (.int k)]) (st' := [(.ref cg)]) rfl ?_
  refine Goes.getF A (hw _ (List.mem_of_getElem? (i := 32) rfl)) Via.refl (R.fld (i := 0) (j := 3) rfl rfl) d15_10 ?_
  refine Goes.blk A _ b15_13_1 (pc' := 14) (Ls' := #[.val (.ref cg), .val (.int k)]) (st' := [(.ref cg), (.ref bs)]) rfl ?_
  refine Goes.getF A (hw _ (List.mem_of_getElem? (i := 38) rfl)) Via.refl (R.fld (i := 0) (j := 2) rfl rfl) d15_14 ?_
  refine Goes.blk A _ b15_17_1 (pc' := 18) (Ls' := #[.val (.ref cg), .val (.int k)]) (st' := [(.int k), (.ref po), (.ref bs)]) rfl ?_
  refine Goes.iaload A R (i := 1) rfl (k := n) hn hp d15_18 ?_
  refine Goes.virt A (hw _ (List.mem_of_getElem? (i := 93) rfl)) (hw _ (List.mem_of_getElem? (i := 94) rfl)) (hw _ (List.mem_of_getElem? (i := 96) rfl)) (hw _ (List.mem_of_getElem? (i := 96) rfl)) (hw _ (List.mem_of_getElem? (i := 95) rfl)) (hw _ (List.mem_of_getElem? (i := 12) rfl)) (hw _ (List.mem_of_getElem? (i := 97) rfl)) d15_19 pd_727776 (by decide) (R.exa (i := 2) rfl) (argsL := [(.int q)]) (rest := []) rfl rfl rfl (W := 0) (Nat.le_of_ble_eq_true rfl) (by decide) (by decide) (by decide) (by decide) (kCL0 l Z n0 a0 hw h (Nat.le_trans Z0 K.1) bs wd w0 q q0 (h6 q0) (R.pick [0] [2, 3] rfl rfl (by decide))) (fun v h2 hh => ?_)
  obtain ⟨u, w1, hu, rfl, Kc2, Rc2⟩ := hh
  have R2 := R.upd Kc2 [2, 3] Rc2 (Nat.le_of_ble_eq_true rfl) rfl [2, 3] rfl (by decide) al0
  have K2 := K.trans Kc2 (alS (Or.inl (List.mem_of_getElem? (i := 0) rfl)) (alS (Or.inl (List.mem_of_getElem? (i := 1) rfl)) al0))
  replace R2 : Rep Z a0 n0 h2 GB [(cg, true, .inl ("com/example/stillpoint/stillpoint/spec/CallGroups", (CGs (.ref bg) (.ref st) (.ref po) (.ref bs) .null .null .null))), (po, true, .inr (.int, PL)), (bs, true, .inl ("java/util/BitSet", (BSs (.ref wd) (.int u) (.int (0 : Int32))))), (wd, true, .inr (.long, [(.long w1)]))] := R2
  show Goes p l e _ s m _ below meth c n0 _ h2 0 0 22 #[.val (.ref cg), .val (.int k)] []
  refine Goes.blk A _ b15_22_2 (pc' := 24) (Ls' := #[.val (.ref cg), .val (.int k)]) (st' := [(.ref cg), (.ref cg)]) rfl ?_
  refine Goes.getF A (hw _ (List.mem_of_getElem? (i := 38) rfl)) Via.refl (R2.fld (i := 0) (j := 2) rfl rfl) d15_24 ?_
  refine Goes.blk A _ b15_27_1 (pc' := 28) (Ls' := #[.val (.ref cg), .val (.int k)]) (st' := [(.int k), (.ref po), (.ref cg)]) rfl ?_
  refine Goes.iaload A R2 (i := 1) rfl (k := n) hn hp d15_28 ?_
  refine Goes.priv A (hw _ (List.mem_of_getElem? (i := 103) rfl)) (hw _ (List.mem_of_getElem? (i := 104) rfl)) (selfsel (hw _ (List.mem_of_getElem? (i := 82) rfl)) rfl (hw _ (List.mem_of_getElem? (i := 105) rfl)) (hw _ (List.mem_of_getElem? (i := 104) rfl)) (by decide)) (hw _ (List.mem_of_getElem? (i := 105) rfl)) (hw _ (List.mem_of_getElem? (i := 3) rfl)) (hw _ (List.mem_of_getElem? (i := 106) rfl)) d15_29 pd_727776 (by decide) (R2.exa (i := 0) rfl) (argsL := [(.int q)]) (rest := []) rfl rfl rfl (W := 0) (Nat.le_of_ble_eq_true rfl) (by decide) (by decide) (by decide) (by decide) (kME l Z n0 a0 hw h2 (Nat.le_trans Z0 K2.1) cg bg st po bs q (R2.pick [0] [0] rfl rfl (by decide))) (fun v hq hh => ?_)
  obtain ⟨rfl, rfl⟩ := hh
  show Goes p l e _ s m _ below meth c n0 _ h2 0 0 32 #[.val (.ref cg), .val (.int k)] []
  exact Goes.retV A hret hlk d15_32 (by decide) (by decide) ⟨_, _, hu, rfl, K2, R2⟩
set_option maxRecDepth 65536 in
set_option maxHeartbeats 40000000 in
theorem kPL1 (l : Launch) (Z : State) (n0 : Nat) (a0 : Array Value) (hw : ∀ d ∈ tables_1, d.before a0 Z = true) (h : Heap) (Z0 : n0 ≤ h.size) (cg bg st po bs wd : Addr) (w0 : Int64) (PL : List Value) (k q : Int32) (n : Nat) (hn : k.toInt = n) (hp : PL[n]? = some (.int q)) (h6 : 0 ≤ q.toInt → (q >>> ((6 : Int32) &&& 31)) = (0 : Int32)) (R : Rep Z a0 n0 h GB [(cg, true, .inl ("com/example/stillpoint/stillpoint/spec/CallGroups", (CGs (.ref bg) (.ref st) (.ref po) (.ref bs) .null .null .null))), (po, true, .inr (.int, PL)), (bs, true, .inl ("java/util/BitSet", (BSs (.ref wd) (.int (1 : Int32)) (.int (0 : Int32))))), (wd, true, .inr (.long, [(.long w0)]))]) : Con l Z n0 (⟨"com/example/stillpoint/stillpoint/spec/CallGroups", "place", "(I)V"⟩ : MethodName) prog_81_method_3_code 2 none ({ frames := 2, cells := 0, slots := 0, locals := 27 } : Room) #[(.ref cg), (.int k)] h (fun v h' => ∃ u w, (u = 0 ∨ u = 1) ∧ v = none ∧ Keep h h' [bs, wd] ∧ Rep Z a0 n0 h' GB [(cg, true, .inl ("com/example/stillpoint/stillpoint/spec/CallGroups", (CGs (.ref bg) (.ref st) (.ref po) (.ref bs) .null .null .null))), (po, true, .inr (.int, PL)), (bs, true, .inl ("java/util/BitSet", (BSs (.ref wd) (.int u) (.int (0 : Int32))))), (wd, true, .inr (.long, [(.long w)]))]) := by
  refine Con.mk (Ls := #[.val (.ref cg), .val (.int k)]) (plainFor_of_name pn_com_example_stillpoint_stillpoint_spec_CallGroups) (ef15_ri cg k) ?_
  intro p e s m below meth c A hret hlk hnm
  have K : Keep h h [bs, wd] := Keep.refl _ _
  have l_0 : (0 : Int32).toInt = 0 := by decide
  refine Goes.blk A _ b15_0_1 (pc' := 1) (Ls' := #[.val (.ref cg), .val (.int k)]) (st' := [(.ref cg)]) rfl ?_
  refine Goes.getF A (hw _ (List.mem_of_getElem? (i := 38) rfl)) Via.refl (R.fld (i := 0) (j := 2) rfl rfl) d15_1 ?_
  refine Goes.blk A _ b15_4_1 (pc' := 5) (Ls' := #[.val (.ref cg), .val (.int k)]) (st' := [(.int k), (.ref po)]) rfl ?_
  refine Goes.iaload A R (i := 1) rfl (k := n) hn hp d15_5 ?_
  refine Goes.if1 A d15_6 (by decide) (pc' := 32) (by decide) (fun hc1 => ?_) (fun hc1 => ?_)
  · skip
    exact Goes.retV A hret hlk d15_32 (by decide) (by decide) ⟨_, _, Or.inr rfl, rfl, K, R⟩
  have q9 := cP_nint hc1
  simp only [cI] at q9
  have q0 : 0 ≤ q.toInt := by omega
  refine Goes.blk A _ b15_9_1 (pc' := 10) (Ls' := #[.val (.ref cg), .val (.int k)]) (st' := [(.ref cg)]) rfl ?_
  refine Goes.getF A (hw _ (List.mem_of_getElem? (i := 32) rfl)) Via.refl (R.fld (i := 0) (j := 3) rfl rfl) d15_10 ?_
  refine Goes.blk A _ b15_13_1 (pc' := 14) (Ls' := #[.val (.ref cg), .val (.int k)]) (st' := [(.ref cg), (.ref bs)]) rfl ?_
  refine Goes.getF A (hw _ (List.mem_of_getElem? (i := 38) rfl)) Via.refl (R.fld (i := 0) (j := 2) rfl rfl) d15_14 ?_
  refine Goes.blk A _ b15_17_1 (pc' := 18) (Ls' := #[.val (.ref cg), .val (.int k)]) (st' := [(.int k), (.ref po), (.ref bs)]) rfl ?_
  refine Goes.iaload A R (i := 1) rfl (k := n) hn hp d15_18 ?_
  refine Goes.virt A (hw _ (List.mem_of_getElem? (i := 93) rfl)) (hw _ (List.mem_of_getElem? (i := 94) rfl)) (hw _ (List.mem_of_getElem? (i := 96) rfl)) (hw _ (List.mem_of_getElem? (i := 96) rfl)) (hw _ (List.mem_of_getElem? (i := 95) rfl)) (hw _ (List.mem_of_getElem? (i := 12) rfl)) (hw _ (List.mem_of_getElem? (i := 97) rfl)) d15_19 pd_727776 (by decide) (R.exa (i := 2) rfl) (argsL := [(.int q)]) (rest := []) rfl rfl rfl (W := 0) (Nat.le_of_ble_eq_true rfl) (by decide) (by decide) (by decide) (by decide) (kCL1 l Z n0 a0 hw h (Nat.le_trans Z0 K.1) bs wd w0 q q0 (h6 q0) (R.pick [0] [2, 3] rfl rfl (by decide))) (fun v h2 hh => ?_)
  obtain ⟨u, w1, hu, rfl, Kc2, Rc2⟩ := hh
  have R2 := R.upd Kc2 [2, 3] Rc2 (Nat.le_of_ble_eq_true rfl) rfl [2, 3] rfl (by decide) al0
  have K2 := K.trans Kc2 (alS (Or.inl (List.mem_of_getElem? (i := 0) rfl)) (alS (Or.inl (List.mem_of_getElem? (i := 1) rfl)) al0))
  replace R2 : Rep Z a0 n0 h2 GB [(cg, true, .inl ("com/example/stillpoint/stillpoint/spec/CallGroups", (CGs (.ref bg) (.ref st) (.ref po) (.ref bs) .null .null .null))), (po, true, .inr (.int, PL)), (bs, true, .inl ("java/util/BitSet", (BSs (.ref wd) (.int u) (.int (0 : Int32))))), (wd, true, .inr (.long, [(.long w1)]))] := R2
  show Goes p l e _ s m _ below meth c n0 _ h2 0 0 22 #[.val (.ref cg), .val (.int k)] []
  refine Goes.blk A _ b15_22_2 (pc' := 24) (Ls' := #[.val (.ref cg), .val (.int k)]) (st' := [(.ref cg), (.ref cg)]) rfl ?_
  refine Goes.getF A (hw _ (List.mem_of_getElem? (i := 38) rfl)) Via.refl (R2.fld (i := 0) (j := 2) rfl rfl) d15_24 ?_
  refine Goes.blk A _ b15_27_1 (pc' := 28) (Ls' := #[.val (.ref cg), .val (.int k)]) (st' := [(.int k), (.ref po), (.ref cg)]) rfl ?_
  refine Goes.iaload A R2 (i := 1) rfl (k := n) hn hp d15_28 ?_
  refine Goes.priv A (hw _ (List.mem_of_getElem? (i := 103) rfl)) (hw _ (List.mem_of_getElem? (i := 104) rfl)) (selfsel (hw _ (List.mem_of_getElem? (i := 82) rfl)) rfl (hw _ (List.mem_of_getElem? (i := 105) rfl)) (hw _ (List.mem_of_getElem? (i := 104) rfl)) (by decide)) (hw _ (List.mem_of_getElem? (i := 105) rfl)) (hw _ (List.mem_of_getElem? (i := 3) rfl)) (hw _ (List.mem_of_getElem? (i := 106) rfl)) d15_29 pd_727776 (by decide) (R2.exa (i := 0) rfl) (argsL := [(.int q)]) (rest := []) rfl rfl rfl (W := 0) (Nat.le_of_ble_eq_true rfl) (by decide) (by decide) (by decide) (by decide) (kME l Z n0 a0 hw h2 (Nat.le_trans Z0 K2.1) cg bg st po bs q (R2.pick [0] [0] rfl rfl (by decide))) (fun v hq hh => ?_)
  obtain ⟨rfl, rfl⟩ := hh
  show Goes p l e _ s m _ below meth c n0 _ h2 0 0 32 #[.val (.ref cg), .val (.int k)] []
  exact Goes.retV A hret hlk d15_32 (by decide) (by decide) ⟨_, _, hu, rfl, K2, R2⟩
set_option maxRecDepth 65536 in
set_option maxHeartbeats 40000000 in
theorem kCA (l : Launch) (Z : State) (n0 : Nat) (a0 : Array Value) (hw : ∀ d ∈ tables_1, d.before a0 Z = true) (h : Heap) (Z0 : n0 ≤ h.size) (cg bg st po bs : Addr) (PL SL BL : List Value) (g cl k q s r : Int32) (n1 n2 : Nat) (h1 : cl.toInt = n1) (hp : PL[n1]? = some (.int q)) (h2 : (g + (1 : Int32)).toInt = n2) (hs : SL[n2]? = some (.int s)) (hT : (q + k).toInt < s.toInt → ∃ n3 : Nat, (q + k).toInt = n3 ∧ BL[n3]? = some (.int r)) (hF : ¬ (q + k).toInt < s.toInt → r = -1) (R : Rep Z a0 n0 h GB [(cg, true, .inl ("com/example/stillpoint/stillpoint/spec/CallGroups", (CGs (.ref bg) (.ref st) (.ref po) (.ref bs) .null .null .null))), (po, true, .inr (.int, PL)), (st, true, .inr (.int, SL)), (bg, true, .inr (.int, BL))]) : Con l Z n0 (⟨"com/example/stillpoint/stillpoint/spec/CallGroups", "callAfter", "(III)I"⟩ : MethodName) prog_81_method_18_code 5 (some .int) ({ frames := 0, cells := 0, slots := 0, locals := 0 } : Room) #[(.ref cg), (.int g), (.int cl), (.int k)] h (fun v h' => v = some (.int r) ∧ h = h') := by
  refine Con.mk (Ls := #[.val (.ref cg), .val (.int g), .val (.int cl), .val (.int k), .unset]) (plainFor_of_name pn_com_example_stillpoint_stillpoint_spec_CallGroups) (ef13_riii cg g cl k) ?_
  intro p e s m below meth c A hret hlk hnm
  have K : Keep h h [] := Keep.refl _ _
  refine Goes.blk A _ b13_0_1 (pc' := 1) (Ls' := #[.val (.ref cg), .val (.int g), .val (.int cl), .val (.int k), .unset]) (st' := [(.ref cg)]) rfl ?_
  refine Goes.getF A (hw _ (List.mem_of_getElem? (i := 38) rfl)) Via.refl (R.fld (i := 0) (j := 2) rfl rfl) d13_1 ?_
  refine Goes.blk A _ b13_4_1 (pc' := 5) (Ls' := #[.val (.ref cg), .val (.int g), .val (.int cl), .val (.int k), .unset]) (st' := [(.int cl), (.ref po)]) rfl ?_
  refine Goes.iaload A R (i := 1) rfl (k := n1) h1 hp d13_5 ?_
  refine Goes.blk A _ b13_6_5 (pc' := 13) (Ls' := #[.val (.ref cg), .val (.int g), .val (.int cl), .val (.int k), .val (.int (q + k))]) (st' := [(.ref cg), (.int (q + k))]) rfl ?_
  refine Goes.getF A (hw _ (List.mem_of_getElem? (i := 34) rfl)) Via.refl (R.fld (i := 0) (j := 1) rfl rfl) d13_13 ?_
  refine Goes.blk A _ b13_16_3 (pc' := 19) (Ls' := #[.val (.ref cg), .val (.int g), .val (.int cl), .val (.int k), .val (.int (q + k))]) (st' := [(.int (g + (1 : Int32))), (.ref st), (.int (q + k))]) rfl ?_
  refine Goes.iaload A R (i := 2) rfl (k := n2) h2 hs d13_19 ?_
  refine Goes.if2 A d13_20 (by decide) (pc' := 33) (by decide) (fun hc1 => ?_) (fun hc1 => ?_)
  · skip
    refine Goes.blk A _ b13_33_1 (pc' := 34) (Ls' := #[.val (.ref cg), .val (.int g), .val (.int cl), .val (.int k), .val (.int (q + k))]) (st' := [(.int (-1 : Int32))]) rfl ?_
    exact Goes.retI A hret hlk d13_34 (by decide) (by decide) ⟨by rw [hF (by have q9 := cP_int hc1; simp only [cI] at q9; omega)], rfl⟩
  obtain ⟨n3, h3, hr⟩ := hT (by have q9 := cP_nint hc1; simp only [cI] at q9; omega)
  refine Goes.blk A _ b13_23_1 (pc' := 24) (Ls' := #[.val (.ref cg), .val (.int g), .val (.int cl), .val (.int k), .val (.int (q + k))]) (st' := [(.ref cg)]) rfl ?_
  refine Goes.getF A (hw _ (List.mem_of_getElem? (i := 36) rfl)) Via.refl (R.fld (i := 0) (j := 0) rfl rfl) d13_24 ?_
  refine Goes.blk A _ b13_27_1 (pc' := 29) (Ls' := #[.val (.ref cg), .val (.int g), .val (.int cl), .val (.int k), .val (.int (q + k))]) (st' := [(.int (q + k)), (.ref bg)]) rfl ?_
  refine Goes.iaload A R (i := 3) rfl (k := n3) h3 hr d13_29 ?_
  refine Goes.jump A d13_30 (by decide) (pc' := 34) (by decide) ?_
  exact Goes.retI A hret hlk d13_34 (by decide) (by decide) ⟨rfl, rfl⟩
def rfL (g k : Int32) : Int32 → List (Int32 × Int32) → Int32
  | _, [] => -1
  | n, q :: r => if q.1 = g then (if n + 1 = k then q.2 else rfL g k (n + 1) r) else rfL g k n r
def rfF (g k cl : Int32) (xs : List (Int32 × Int32)) : Int32 := if k = 0 then cl else rfL g k 0 xs

set_option maxRecDepth 65536 in
set_option maxHeartbeats 40000000 in
theorem kRF0 (l : Launch) (Z : State) (n0 : Nat) (a0 : Array Value) (hw : ∀ d ∈ tables_1, d.before a0 Z = true) (h : Heap) (Z0 : n0 ≤ h.size) (gr : Addr) (g k g0 g1 g2 g3 : Int32) (R : Rep Z a0 n0 h GB [(gr, true, .inr (.int, [(.int g0), (.int g1), (.int g2), (.int g3)]))]) : Con l Z n0 (⟨"com/example/stillpoint/stillpoint/spec/CallGroupsCallAfterPinLaw", "ref", "([IIII)I"⟩ : MethodName) method_3_code 5 (some .int) ({ frames := 0, cells := 0, slots := 0, locals := 0 } : Room) #[(.ref gr), (.int g), (.int (0 : Int32)), (.int k)] h (fun v h' => v = some (.int (rfF g k 0 [(g1, 1), (g2, 2), (g3, 3)])) ∧ h = h') := by
  refine Con.mk (Ls := #[.val (.ref gr), .val (.int g), .val (.int (0 : Int32)), .val (.int k), .unset]) (plainFor_of_name pn_com_example_stillpoint_stillpoint_spec_CallGroupsCallAfterPinLaw) (ef14_riii gr g (0 : Int32) k) ?_
  intro p e s m below meth c A hret hlk hnm
  have K : Keep h h [] := Keep.refl _ _
  refine Goes.blk A _ b14_0_1 (pc' := 1) (Ls' := #[.val (.ref gr), .val (.int g), .val (.int (0 : Int32)), .val (.int k), .unset]) (st' := [(.int k)]) rfl ?_
  refine Goes.if1 A d14_1 (by decide) (pc' := 6) (by decide) (fun hc1 => ?_) (fun hc1 => ?_)
  · skip
    have e2 : ¬ k = 0 := hc1
    refine Goes.blk A _ b14_6_6 (pc' := 13) (Ls' := #[.val (.ref gr), .val (.int g), .val (.int (0 : Int32)), .val (.int k), .val (.int (0 : Int32))]) (st' := [(.int (3 : Int32)), (.int ((0 : Int32) + (1 : Int32)))]) rfl ?_
    refine Goes.if2 A d14_13 (by decide) (pc' := 38) (by decide) (fun hc => absurd hc (cP_f (by decide))) (fun hc3 => ?_)
    refine Goes.blk A _ b14_16_4 (pc' := 20) (Ls' := #[.val (.ref gr), .val (.int g), .val (.int (0 : Int32)), .val (.int k), .val (.int (0 : Int32))]) (st' := [(.int ((0 : Int32) + (1 : Int32))), (.ref gr)]) rfl ?_
    refine Goes.iaload A R (i := 0) rfl (k := 1) (by decide) rfl d14_20 ?_
    refine Goes.blk A _ b14_21_1 (pc' := 22) (Ls' := #[.val (.ref gr), .val (.int g), .val (.int (0 : Int32)), .val (.int k), .val (.int (0 : Int32))]) (st' := [(.int g), (.int g1)]) rfl ?_
    refine Goes.if2 A d14_22 (by decide) (pc' := 38) (by decide) (fun hc4 => ?_) (fun hc4 => ?_)
    · skip
      have e5 : ¬ g1 = g := hc4
      refine Goes.blk A _ b14_38_4 (pc' := 42) (Ls' := #[.val (.ref gr), .val (.int g), .val (.int (0 : Int32)), .val (.int k), .val (.int (0 : Int32))]) (st' := [(.int (3 : Int32)), (.int ((0 : Int32) + (2 : Int32)))]) rfl ?_
      refine Goes.if2 A d14_42 (by decide) (pc' := 67) (by decide) (fun hc => absurd hc (cP_f (by decide))) (fun hc6 => ?_)
      refine Goes.blk A _ b14_45_4 (pc' := 49) (Ls' := #[.val (.ref gr), .val (.int g), .val (.int (0 : Int32)), .val (.int k), .val (.int (0 : Int32))]) (st' := [(.int ((0 : Int32) + (2 : Int32))), (.ref gr)]) rfl ?_
      refine Goes.iaload A R (i := 0) rfl (k := 2) (by decide) rfl d14_49 ?_
      refine Goes.blk A _ b14_50_1 (pc' := 51) (Ls' := #[.val (.ref gr), .val (.int g), .val (.int (0 : Int32)), .val (.int k), .val (.int (0 : Int32))]) (st' := [(.int g), (.int g2)]) rfl ?_
      refine Goes.if2 A d14_51 (by decide) (pc' := 67) (by decide) (fun hc7 => ?_) (fun hc7 => ?_)
      · skip
        have e8 : ¬ g2 = g := hc7
        refine Goes.blk A _ b14_67_4 (pc' := 71) (Ls' := #[.val (.ref gr), .val (.int g), .val (.int (0 : Int32)), .val (.int k), .val (.int (0 : Int32))]) (st' := [(.int (3 : Int32)), (.int ((0 : Int32) + (3 : Int32)))]) rfl ?_
        refine Goes.if2 A d14_71 (by decide) (pc' := 96) (by decide) (fun hc => absurd hc (cP_f (by decide))) (fun hc9 => ?_)
        refine Goes.blk A _ b14_74_4 (pc' := 78) (Ls' := #[.val (.ref gr), .val (.int g), .val (.int (0 : Int32)), .val (.int k), .val (.int (0 : Int32))]) (st' := [(.int ((0 : Int32) + (3 : Int32))), (.ref gr)]) rfl ?_
        refine Goes.iaload A R (i := 0) rfl (k := 3) (by decide) rfl d14_78 ?_
        refine Goes.blk A _ b14_79_1 (pc' := 80) (Ls' := #[.val (.ref gr), .val (.int g), .val (.int (0 : Int32)), .val (.int k), .val (.int (0 : Int32))]) (st' := [(.int g), (.int g3)]) rfl ?_
        refine Goes.if2 A d14_80 (by decide) (pc' := 96) (by decide) (fun hc10 => ?_) (fun hc10 => ?_)
        · skip
          have e11 : ¬ g3 = g := hc10
          refine Goes.blk A _ b14_96_1 (pc' := 97) (Ls' := #[.val (.ref gr), .val (.int g), .val (.int (0 : Int32)), .val (.int k), .val (.int (0 : Int32))]) (st' := [(.int (-1 : Int32))]) rfl ?_
          exact Goes.retI A hret hlk d14_97 (by decide) (by decide) ⟨by simp [rfF, rfL, e2, e5, e8, e11], rfl⟩
        have e12 : g3 = g := (Classical.not_not.mp hc10)
        refine Goes.blk A _ b14_83_3 (pc' := 89) (Ls' := #[.val (.ref gr), .val (.int g), .val (.int (0 : Int32)), .val (.int k), .val (.int ((0 : Int32) + (1 : Int32)))]) (st' := [(.int k), (.int ((0 : Int32) + (1 : Int32)))]) rfl ?_
        refine Goes.if2 A d14_89 (by decide) (pc' := 96) (by decide) (fun hc13 => ?_) (fun hc13 => ?_)
        · skip
          have e14 : ¬ (1 : Int32) = k := hc13
          refine Goes.blk A _ b14_96_1 (pc' := 97) (Ls' := #[.val (.ref gr), .val (.int g), .val (.int (0 : Int32)), .val (.int k), .val (.int ((0 : Int32) + (1 : Int32)))]) (st' := [(.int (-1 : Int32))]) rfl ?_
          exact Goes.retI A hret hlk d14_97 (by decide) (by decide) ⟨by simp [rfF, rfL, e2, e5, e8, e12, e14], rfl⟩
        have e15 : k = (1 : Int32) := Eq.symm (Classical.not_not.mp hc13)
        refine Goes.blk A _ b14_92_3 (pc' := 95) (Ls' := #[.val (.ref gr), .val (.int g), .val (.int (0 : Int32)), .val (.int k), .val (.int ((0 : Int32) + (1 : Int32)))]) (st' := [(.int ((0 : Int32) + (3 : Int32)))]) rfl ?_
        exact Goes.retI A hret hlk d14_95 (by decide) (by decide) ⟨by simp [rfF, rfL, e2, e5, e8, e12, e15], rfl⟩
      have e16 : g2 = g := (Classical.not_not.mp hc7)
      refine Goes.blk A _ b14_54_3 (pc' := 60) (Ls' := #[.val (.ref gr), .val (.int g), .val (.int (0 : Int32)), .val (.int k), .val (.int ((0 : Int32) + (1 : Int32)))]) (st' := [(.int k), (.int ((0 : Int32) + (1 : Int32)))]) rfl ?_
      refine Goes.if2 A d14_60 (by decide) (pc' := 67) (by decide) (fun hc17 => ?_) (fun hc17 => ?_)
      · skip
        have e18 : ¬ (1 : Int32) = k := hc17
        refine Goes.blk A _ b14_67_4 (pc' := 71) (Ls' := #[.val (.ref gr), .val (.int g), .val (.int (0 : Int32)), .val (.int k), .val (.int ((0 : Int32) + (1 : Int32)))]) (st' := [(.int (3 : Int32)), (.int ((0 : Int32) + (3 : Int32)))]) rfl ?_
        refine Goes.if2 A d14_71 (by decide) (pc' := 96) (by decide) (fun hc => absurd hc (cP_f (by decide))) (fun hc19 => ?_)
        refine Goes.blk A _ b14_74_4 (pc' := 78) (Ls' := #[.val (.ref gr), .val (.int g), .val (.int (0 : Int32)), .val (.int k), .val (.int ((0 : Int32) + (1 : Int32)))]) (st' := [(.int ((0 : Int32) + (3 : Int32))), (.ref gr)]) rfl ?_
        refine Goes.iaload A R (i := 0) rfl (k := 3) (by decide) rfl d14_78 ?_
        refine Goes.blk A _ b14_79_1 (pc' := 80) (Ls' := #[.val (.ref gr), .val (.int g), .val (.int (0 : Int32)), .val (.int k), .val (.int ((0 : Int32) + (1 : Int32)))]) (st' := [(.int g), (.int g3)]) rfl ?_
        refine Goes.if2 A d14_80 (by decide) (pc' := 96) (by decide) (fun hc20 => ?_) (fun hc20 => ?_)
        · skip
          have e21 : ¬ g3 = g := hc20
          refine Goes.blk A _ b14_96_1 (pc' := 97) (Ls' := #[.val (.ref gr), .val (.int g), .val (.int (0 : Int32)), .val (.int k), .val (.int ((0 : Int32) + (1 : Int32)))]) (st' := [(.int (-1 : Int32))]) rfl ?_
          exact Goes.retI A hret hlk d14_97 (by decide) (by decide) ⟨by simp [rfF, rfL, e2, e5, e16, e18, e21], rfl⟩
        have e22 : g3 = g := (Classical.not_not.mp hc20)
        refine Goes.blk A _ b14_83_3 (pc' := 89) (Ls' := #[.val (.ref gr), .val (.int g), .val (.int (0 : Int32)), .val (.int k), .val (.int (((0 : Int32) + (1 : Int32)) + (1 : Int32)))]) (st' := [(.int k), (.int (((0 : Int32) + (1 : Int32)) + (1 : Int32)))]) rfl ?_
        refine Goes.if2 A d14_89 (by decide) (pc' := 96) (by decide) (fun hc23 => ?_) (fun hc23 => ?_)
        · skip
          have e24 : ¬ (2 : Int32) = k := hc23
          refine Goes.blk A _ b14_96_1 (pc' := 97) (Ls' := #[.val (.ref gr), .val (.int g), .val (.int (0 : Int32)), .val (.int k), .val (.int (((0 : Int32) + (1 : Int32)) + (1 : Int32)))]) (st' := [(.int (-1 : Int32))]) rfl ?_
          exact Goes.retI A hret hlk d14_97 (by decide) (by decide) ⟨by simp [rfF, rfL, e2, e5, e16, e18, e22, e24], rfl⟩
        have e25 : k = (2 : Int32) := Eq.symm (Classical.not_not.mp hc23)
        refine Goes.blk A _ b14_92_3 (pc' := 95) (Ls' := #[.val (.ref gr), .val (.int g), .val (.int (0 : Int32)), .val (.int k), .val (.int (((0 : Int32) + (1 : Int32)) + (1 : Int32)))]) (st' := [(.int ((0 : Int32) + (3 : Int32)))]) rfl ?_
        exact Goes.retI A hret hlk d14_95 (by decide) (by decide) ⟨by simp [rfF, rfL, e2, e5, e16, e18, e22, e25], rfl⟩
      have e26 : k = (1 : Int32) := Eq.symm (Classical.not_not.mp hc17)
      refine Goes.blk A _ b14_63_3 (pc' := 66) (Ls' := #[.val (.ref gr), .val (.int g), .val (.int (0 : Int32)), .val (.int k), .val (.int ((0 : Int32) + (1 : Int32)))]) (st' := [(.int ((0 : Int32) + (2 : Int32)))]) rfl ?_
      exact Goes.retI A hret hlk d14_66 (by decide) (by decide) ⟨by simp [rfF, rfL, e2, e5, e16, e26], rfl⟩
    have e27 : g1 = g := (Classical.not_not.mp hc4)
    refine Goes.blk A _ b14_25_3 (pc' := 31) (Ls' := #[.val (.ref gr), .val (.int g), .val (.int (0 : Int32)), .val (.int k), .val (.int ((0 : Int32) + (1 : Int32)))]) (st' := [(.int k), (.int ((0 : Int32) + (1 : Int32)))]) rfl ?_
    refine Goes.if2 A d14_31 (by decide) (pc' := 38) (by decide) (fun hc28 => ?_) (fun hc28 => ?_)
    · skip
      have e29 : ¬ (1 : Int32) = k := hc28
      refine Goes.blk A _ b14_38_4 (pc' := 42) (Ls' := #[.val (.ref gr), .val (.int g), .val (.int (0 : Int32)), .val (.int k), .val (.int ((0 : Int32) + (1 : Int32)))]) (st' := [(.int (3 : Int32)), (.int ((0 : Int32) + (2 : Int32)))]) rfl ?_
      refine Goes.if2 A d14_42 (by decide) (pc' := 67) (by decide) (fun hc => absurd hc (cP_f (by decide))) (fun hc30 => ?_)
      refine Goes.blk A _ b14_45_4 (pc' := 49) (Ls' := #[.val (.ref gr), .val (.int g), .val (.int (0 : Int32)), .val (.int k), .val (.int ((0 : Int32) + (1 : Int32)))]) (st' := [(.int ((0 : Int32) + (2 : Int32))), (.ref gr)]) rfl ?_
      refine Goes.iaload A R (i := 0) rfl (k := 2) (by decide) rfl d14_49 ?_
      refine Goes.blk A _ b14_50_1 (pc' := 51) (Ls' := #[.val (.ref gr), .val (.int g), .val (.int (0 : Int32)), .val (.int k), .val (.int ((0 : Int32) + (1 : Int32)))]) (st' := [(.int g), (.int g2)]) rfl ?_
      refine Goes.if2 A d14_51 (by decide) (pc' := 67) (by decide) (fun hc31 => ?_) (fun hc31 => ?_)
      · skip
        have e32 : ¬ g2 = g := hc31
        refine Goes.blk A _ b14_67_4 (pc' := 71) (Ls' := #[.val (.ref gr), .val (.int g), .val (.int (0 : Int32)), .val (.int k), .val (.int ((0 : Int32) + (1 : Int32)))]) (st' := [(.int (3 : Int32)), (.int ((0 : Int32) + (3 : Int32)))]) rfl ?_
        refine Goes.if2 A d14_71 (by decide) (pc' := 96) (by decide) (fun hc => absurd hc (cP_f (by decide))) (fun hc33 => ?_)
        refine Goes.blk A _ b14_74_4 (pc' := 78) (Ls' := #[.val (.ref gr), .val (.int g), .val (.int (0 : Int32)), .val (.int k), .val (.int ((0 : Int32) + (1 : Int32)))]) (st' := [(.int ((0 : Int32) + (3 : Int32))), (.ref gr)]) rfl ?_
        refine Goes.iaload A R (i := 0) rfl (k := 3) (by decide) rfl d14_78 ?_
        refine Goes.blk A _ b14_79_1 (pc' := 80) (Ls' := #[.val (.ref gr), .val (.int g), .val (.int (0 : Int32)), .val (.int k), .val (.int ((0 : Int32) + (1 : Int32)))]) (st' := [(.int g), (.int g3)]) rfl ?_
        refine Goes.if2 A d14_80 (by decide) (pc' := 96) (by decide) (fun hc34 => ?_) (fun hc34 => ?_)
        · skip
          have e35 : ¬ g3 = g := hc34
          refine Goes.blk A _ b14_96_1 (pc' := 97) (Ls' := #[.val (.ref gr), .val (.int g), .val (.int (0 : Int32)), .val (.int k), .val (.int ((0 : Int32) + (1 : Int32)))]) (st' := [(.int (-1 : Int32))]) rfl ?_
          exact Goes.retI A hret hlk d14_97 (by decide) (by decide) ⟨by simp [rfF, rfL, e2, e27, e29, e32, e35], rfl⟩
        have e36 : g3 = g := (Classical.not_not.mp hc34)
        refine Goes.blk A _ b14_83_3 (pc' := 89) (Ls' := #[.val (.ref gr), .val (.int g), .val (.int (0 : Int32)), .val (.int k), .val (.int (((0 : Int32) + (1 : Int32)) + (1 : Int32)))]) (st' := [(.int k), (.int (((0 : Int32) + (1 : Int32)) + (1 : Int32)))]) rfl ?_
        refine Goes.if2 A d14_89 (by decide) (pc' := 96) (by decide) (fun hc37 => ?_) (fun hc37 => ?_)
        · skip
          have e38 : ¬ (2 : Int32) = k := hc37
          refine Goes.blk A _ b14_96_1 (pc' := 97) (Ls' := #[.val (.ref gr), .val (.int g), .val (.int (0 : Int32)), .val (.int k), .val (.int (((0 : Int32) + (1 : Int32)) + (1 : Int32)))]) (st' := [(.int (-1 : Int32))]) rfl ?_
          exact Goes.retI A hret hlk d14_97 (by decide) (by decide) ⟨by simp [rfF, rfL, e2, e27, e29, e32, e36, e38], rfl⟩
        have e39 : k = (2 : Int32) := Eq.symm (Classical.not_not.mp hc37)
        refine Goes.blk A _ b14_92_3 (pc' := 95) (Ls' := #[.val (.ref gr), .val (.int g), .val (.int (0 : Int32)), .val (.int k), .val (.int (((0 : Int32) + (1 : Int32)) + (1 : Int32)))]) (st' := [(.int ((0 : Int32) + (3 : Int32)))]) rfl ?_
        exact Goes.retI A hret hlk d14_95 (by decide) (by decide) ⟨by simp [rfF, rfL, e2, e27, e29, e32, e36, e39], rfl⟩
      have e40 : g2 = g := (Classical.not_not.mp hc31)
      refine Goes.blk A _ b14_54_3 (pc' := 60) (Ls' := #[.val (.ref gr), .val (.int g), .val (.int (0 : Int32)), .val (.int k), .val (.int (((0 : Int32) + (1 : Int32)) + (1 : Int32)))]) (st' := [(.int k), (.int (((0 : Int32) + (1 : Int32)) + (1 : Int32)))]) rfl ?_
      refine Goes.if2 A d14_60 (by decide) (pc' := 67) (by decide) (fun hc41 => ?_) (fun hc41 => ?_)
      · skip
        have e42 : ¬ (2 : Int32) = k := hc41
        refine Goes.blk A _ b14_67_4 (pc' := 71) (Ls' := #[.val (.ref gr), .val (.int g), .val (.int (0 : Int32)), .val (.int k), .val (.int (((0 : Int32) + (1 : Int32)) + (1 : Int32)))]) (st' := [(.int (3 : Int32)), (.int ((0 : Int32) + (3 : Int32)))]) rfl ?_
        refine Goes.if2 A d14_71 (by decide) (pc' := 96) (by decide) (fun hc => absurd hc (cP_f (by decide))) (fun hc43 => ?_)
        refine Goes.blk A _ b14_74_4 (pc' := 78) (Ls' := #[.val (.ref gr), .val (.int g), .val (.int (0 : Int32)), .val (.int k), .val (.int (((0 : Int32) + (1 : Int32)) + (1 : Int32)))]) (st' := [(.int ((0 : Int32) + (3 : Int32))), (.ref gr)]) rfl ?_
        refine Goes.iaload A R (i := 0) rfl (k := 3) (by decide) rfl d14_78 ?_
        refine Goes.blk A _ b14_79_1 (pc' := 80) (Ls' := #[.val (.ref gr), .val (.int g), .val (.int (0 : Int32)), .val (.int k), .val (.int (((0 : Int32) + (1 : Int32)) + (1 : Int32)))]) (st' := [(.int g), (.int g3)]) rfl ?_
        refine Goes.if2 A d14_80 (by decide) (pc' := 96) (by decide) (fun hc44 => ?_) (fun hc44 => ?_)
        · skip
          have e45 : ¬ g3 = g := hc44
          refine Goes.blk A _ b14_96_1 (pc' := 97) (Ls' := #[.val (.ref gr), .val (.int g), .val (.int (0 : Int32)), .val (.int k), .val (.int (((0 : Int32) + (1 : Int32)) + (1 : Int32)))]) (st' := [(.int (-1 : Int32))]) rfl ?_
          exact Goes.retI A hret hlk d14_97 (by decide) (by decide) ⟨by simp [rfF, rfL, e2, e27, e29, e40, e42, e45], rfl⟩
        have e46 : g3 = g := (Classical.not_not.mp hc44)
        refine Goes.blk A _ b14_83_3 (pc' := 89) (Ls' := #[.val (.ref gr), .val (.int g), .val (.int (0 : Int32)), .val (.int k), .val (.int ((((0 : Int32) + (1 : Int32)) + (1 : Int32)) + (1 : Int32)))]) (st' := [(.int k), (.int ((((0 : Int32) + (1 : Int32)) + (1 : Int32)) + (1 : Int32)))]) rfl ?_
        refine Goes.if2 A d14_89 (by decide) (pc' := 96) (by decide) (fun hc47 => ?_) (fun hc47 => ?_)
        · skip
          have e48 : ¬ (3 : Int32) = k := hc47
          refine Goes.blk A _ b14_96_1 (pc' := 97) (Ls' := #[.val (.ref gr), .val (.int g), .val (.int (0 : Int32)), .val (.int k), .val (.int ((((0 : Int32) + (1 : Int32)) + (1 : Int32)) + (1 : Int32)))]) (st' := [(.int (-1 : Int32))]) rfl ?_
          exact Goes.retI A hret hlk d14_97 (by decide) (by decide) ⟨by simp [rfF, rfL, e2, e27, e29, e40, e42, e46, e48], rfl⟩
        have e49 : k = (3 : Int32) := Eq.symm (Classical.not_not.mp hc47)
        refine Goes.blk A _ b14_92_3 (pc' := 95) (Ls' := #[.val (.ref gr), .val (.int g), .val (.int (0 : Int32)), .val (.int k), .val (.int ((((0 : Int32) + (1 : Int32)) + (1 : Int32)) + (1 : Int32)))]) (st' := [(.int ((0 : Int32) + (3 : Int32)))]) rfl ?_
        exact Goes.retI A hret hlk d14_95 (by decide) (by decide) ⟨by simp [rfF, rfL, e2, e27, e29, e40, e42, e46, e49], rfl⟩
      have e50 : k = (2 : Int32) := Eq.symm (Classical.not_not.mp hc41)
      refine Goes.blk A _ b14_63_3 (pc' := 66) (Ls' := #[.val (.ref gr), .val (.int g), .val (.int (0 : Int32)), .val (.int k), .val (.int (((0 : Int32) + (1 : Int32)) + (1 : Int32)))]) (st' := [(.int ((0 : Int32) + (2 : Int32)))]) rfl ?_
      exact Goes.retI A hret hlk d14_66 (by decide) (by decide) ⟨by simp [rfF, rfL, e2, e27, e29, e40, e50], rfl⟩
    have e51 : k = (1 : Int32) := Eq.symm (Classical.not_not.mp hc28)
    refine Goes.blk A _ b14_34_3 (pc' := 37) (Ls' := #[.val (.ref gr), .val (.int g), .val (.int (0 : Int32)), .val (.int k), .val (.int ((0 : Int32) + (1 : Int32)))]) (st' := [(.int ((0 : Int32) + (1 : Int32)))]) rfl ?_
    exact Goes.retI A hret hlk d14_37 (by decide) (by decide) ⟨by simp [rfF, rfL, e2, e27, e51], rfl⟩
  have e52 : k = 0 := (Classical.not_not.mp hc1)
  refine Goes.blk A _ b14_4_1 (pc' := 5) (Ls' := #[.val (.ref gr), .val (.int g), .val (.int (0 : Int32)), .val (.int k), .unset]) (st' := [(.int (0 : Int32))]) rfl ?_
  exact Goes.retI A hret hlk d14_5 (by decide) (by decide) ⟨by simp [rfF, rfL, e52], rfl⟩
set_option maxRecDepth 65536 in
set_option maxHeartbeats 40000000 in
theorem kRF1 (l : Launch) (Z : State) (n0 : Nat) (a0 : Array Value) (hw : ∀ d ∈ tables_1, d.before a0 Z = true) (h : Heap) (Z0 : n0 ≤ h.size) (gr : Addr) (g k g0 g1 g2 g3 : Int32) (R : Rep Z a0 n0 h GB [(gr, true, .inr (.int, [(.int g0), (.int g1), (.int g2), (.int g3)]))]) : Con l Z n0 (⟨"com/example/stillpoint/stillpoint/spec/CallGroupsCallAfterPinLaw", "ref", "([IIII)I"⟩ : MethodName) method_3_code 5 (some .int) ({ frames := 0, cells := 0, slots := 0, locals := 0 } : Room) #[(.ref gr), (.int g), (.int (1 : Int32)), (.int k)] h (fun v h' => v = some (.int (rfF g k 1 [(g2, 2), (g3, 3)])) ∧ h = h') := by
  refine Con.mk (Ls := #[.val (.ref gr), .val (.int g), .val (.int (1 : Int32)), .val (.int k), .unset]) (plainFor_of_name pn_com_example_stillpoint_stillpoint_spec_CallGroupsCallAfterPinLaw) (ef14_riii gr g (1 : Int32) k) ?_
  intro p e s m below meth c A hret hlk hnm
  have K : Keep h h [] := Keep.refl _ _
  refine Goes.blk A _ b14_0_1 (pc' := 1) (Ls' := #[.val (.ref gr), .val (.int g), .val (.int (1 : Int32)), .val (.int k), .unset]) (st' := [(.int k)]) rfl ?_
  refine Goes.if1 A d14_1 (by decide) (pc' := 6) (by decide) (fun hc1 => ?_) (fun hc1 => ?_)
  · skip
    have e2 : ¬ k = 0 := hc1
    refine Goes.blk A _ b14_6_6 (pc' := 13) (Ls' := #[.val (.ref gr), .val (.int g), .val (.int (1 : Int32)), .val (.int k), .val (.int (0 : Int32))]) (st' := [(.int (3 : Int32)), (.int ((1 : Int32) + (1 : Int32)))]) rfl ?_
    refine Goes.if2 A d14_13 (by decide) (pc' := 38) (by decide) (fun hc => absurd hc (cP_f (by decide))) (fun hc3 => ?_)
    refine Goes.blk A _ b14_16_4 (pc' := 20) (Ls' := #[.val (.ref gr), .val (.int g), .val (.int (1 : Int32)), .val (.int k), .val (.int (0 : Int32))]) (st' := [(.int ((1 : Int32) + (1 : Int32))), (.ref gr)]) rfl ?_
    refine Goes.iaload A R (i := 0) rfl (k := 2) (by decide) rfl d14_20 ?_
    refine Goes.blk A _ b14_21_1 (pc' := 22) (Ls' := #[.val (.ref gr), .val (.int g), .val (.int (1 : Int32)), .val (.int k), .val (.int (0 : Int32))]) (st' := [(.int g), (.int g2)]) rfl ?_
    refine Goes.if2 A d14_22 (by decide) (pc' := 38) (by decide) (fun hc4 => ?_) (fun hc4 => ?_)
    · skip
      have e5 : ¬ g2 = g := hc4
      refine Goes.blk A _ b14_38_4 (pc' := 42) (Ls' := #[.val (.ref gr), .val (.int g), .val (.int (1 : Int32)), .val (.int k), .val (.int (0 : Int32))]) (st' := [(.int (3 : Int32)), (.int ((1 : Int32) + (2 : Int32)))]) rfl ?_
      refine Goes.if2 A d14_42 (by decide) (pc' := 67) (by decide) (fun hc => absurd hc (cP_f (by decide))) (fun hc6 => ?_)
      refine Goes.blk A _ b14_45_4 (pc' := 49) (Ls' := #[.val (.ref gr), .val (.int g), .val (.int (1 : Int32)), .val (.int k), .val (.int (0 : Int32))]) (st' := [(.int ((1 : Int32) + (2 : Int32))), (.ref gr)]) rfl ?_
      refine Goes.iaload A R (i := 0) rfl (k := 3) (by decide) rfl d14_49 ?_
      refine Goes.blk A _ b14_50_1 (pc' := 51) (Ls' := #[.val (.ref gr), .val (.int g), .val (.int (1 : Int32)), .val (.int k), .val (.int (0 : Int32))]) (st' := [(.int g), (.int g3)]) rfl ?_
      refine Goes.if2 A d14_51 (by decide) (pc' := 67) (by decide) (fun hc7 => ?_) (fun hc7 => ?_)
      · skip
        have e8 : ¬ g3 = g := hc7
        refine Goes.blk A _ b14_67_4 (pc' := 71) (Ls' := #[.val (.ref gr), .val (.int g), .val (.int (1 : Int32)), .val (.int k), .val (.int (0 : Int32))]) (st' := [(.int (3 : Int32)), (.int ((1 : Int32) + (3 : Int32)))]) rfl ?_
        refine Goes.if2 A d14_71 (by decide) (pc' := 96) (by decide) (fun hc9 => ?_) (fun hc => absurd (cP_t (by decide)) hc)
        refine Goes.blk A _ b14_96_1 (pc' := 97) (Ls' := #[.val (.ref gr), .val (.int g), .val (.int (1 : Int32)), .val (.int k), .val (.int (0 : Int32))]) (st' := [(.int (-1 : Int32))]) rfl ?_
        exact Goes.retI A hret hlk d14_97 (by decide) (by decide) ⟨by simp [rfF, rfL, e2, e5, e8], rfl⟩
      have e10 : g3 = g := (Classical.not_not.mp hc7)
      refine Goes.blk A _ b14_54_3 (pc' := 60) (Ls' := #[.val (.ref gr), .val (.int g), .val (.int (1 : Int32)), .val (.int k), .val (.int ((0 : Int32) + (1 : Int32)))]) (st' := [(.int k), (.int ((0 : Int32) + (1 : Int32)))]) rfl ?_
      refine Goes.if2 A d14_60 (by decide) (pc' := 67) (by decide) (fun hc11 => ?_) (fun hc11 => ?_)
      · skip
        have e12 : ¬ (1 : Int32) = k := hc11
        refine Goes.blk A _ b14_67_4 (pc' := 71) (Ls' := #[.val (.ref gr), .val (.int g), .val (.int (1 : Int32)), .val (.int k), .val (.int ((0 : Int32) + (1 : Int32)))]) (st' := [(.int (3 : Int32)), (.int ((1 : Int32) + (3 : Int32)))]) rfl ?_
        refine Goes.if2 A d14_71 (by decide) (pc' := 96) (by decide) (fun hc13 => ?_) (fun hc => absurd (cP_t (by decide)) hc)
        refine Goes.blk A _ b14_96_1 (pc' := 97) (Ls' := #[.val (.ref gr), .val (.int g), .val (.int (1 : Int32)), .val (.int k), .val (.int ((0 : Int32) + (1 : Int32)))]) (st' := [(.int (-1 : Int32))]) rfl ?_
        exact Goes.retI A hret hlk d14_97 (by decide) (by decide) ⟨by simp [rfF, rfL, e2, e5, e10, e12], rfl⟩
      have e14 : k = (1 : Int32) := Eq.symm (Classical.not_not.mp hc11)
      refine Goes.blk A _ b14_63_3 (pc' := 66) (Ls' := #[.val (.ref gr), .val (.int g), .val (.int (1 : Int32)), .val (.int k), .val (.int ((0 : Int32) + (1 : Int32)))]) (st' := [(.int ((1 : Int32) + (2 : Int32)))]) rfl ?_
      exact Goes.retI A hret hlk d14_66 (by decide) (by decide) ⟨by simp [rfF, rfL, e2, e5, e10, e14], rfl⟩
    have e15 : g2 = g := (Classical.not_not.mp hc4)
    refine Goes.blk A _ b14_25_3 (pc' := 31) (Ls' := #[.val (.ref gr), .val (.int g), .val (.int (1 : Int32)), .val (.int k), .val (.int ((0 : Int32) + (1 : Int32)))]) (st' := [(.int k), (.int ((0 : Int32) + (1 : Int32)))]) rfl ?_
    refine Goes.if2 A d14_31 (by decide) (pc' := 38) (by decide) (fun hc16 => ?_) (fun hc16 => ?_)
    · skip
      have e17 : ¬ (1 : Int32) = k := hc16
      refine Goes.blk A _ b14_38_4 (pc' := 42) (Ls' := #[.val (.ref gr), .val (.int g), .val (.int (1 : Int32)), .val (.int k), .val (.int ((0 : Int32) + (1 : Int32)))]) (st' := [(.int (3 : Int32)), (.int ((1 : Int32) + (2 : Int32)))]) rfl ?_
      refine Goes.if2 A d14_42 (by decide) (pc' := 67) (by decide) (fun hc => absurd hc (cP_f (by decide))) (fun hc18 => ?_)
      refine Goes.blk A _ b14_45_4 (pc' := 49) (Ls' := #[.val (.ref gr), .val (.int g), .val (.int (1 : Int32)), .val (.int k), .val (.int ((0 : Int32) + (1 : Int32)))]) (st' := [(.int ((1 : Int32) + (2 : Int32))), (.ref gr)]) rfl ?_
      refine Goes.iaload A R (i := 0) rfl (k := 3) (by decide) rfl d14_49 ?_
      refine Goes.blk A _ b14_50_1 (pc' := 51) (Ls' := #[.val (.ref gr), .val (.int g), .val (.int (1 : Int32)), .val (.int k), .val (.int ((0 : Int32) + (1 : Int32)))]) (st' := [(.int g), (.int g3)]) rfl ?_
      refine Goes.if2 A d14_51 (by decide) (pc' := 67) (by decide) (fun hc19 => ?_) (fun hc19 => ?_)
      · skip
        have e20 : ¬ g3 = g := hc19
        refine Goes.blk A _ b14_67_4 (pc' := 71) (Ls' := #[.val (.ref gr), .val (.int g), .val (.int (1 : Int32)), .val (.int k), .val (.int ((0 : Int32) + (1 : Int32)))]) (st' := [(.int (3 : Int32)), (.int ((1 : Int32) + (3 : Int32)))]) rfl ?_
        refine Goes.if2 A d14_71 (by decide) (pc' := 96) (by decide) (fun hc21 => ?_) (fun hc => absurd (cP_t (by decide)) hc)
        refine Goes.blk A _ b14_96_1 (pc' := 97) (Ls' := #[.val (.ref gr), .val (.int g), .val (.int (1 : Int32)), .val (.int k), .val (.int ((0 : Int32) + (1 : Int32)))]) (st' := [(.int (-1 : Int32))]) rfl ?_
        exact Goes.retI A hret hlk d14_97 (by decide) (by decide) ⟨by simp [rfF, rfL, e2, e15, e17, e20], rfl⟩
      have e22 : g3 = g := (Classical.not_not.mp hc19)
      refine Goes.blk A _ b14_54_3 (pc' := 60) (Ls' := #[.val (.ref gr), .val (.int g), .val (.int (1 : Int32)), .val (.int k), .val (.int (((0 : Int32) + (1 : Int32)) + (1 : Int32)))]) (st' := [(.int k), (.int (((0 : Int32) + (1 : Int32)) + (1 : Int32)))]) rfl ?_
      refine Goes.if2 A d14_60 (by decide) (pc' := 67) (by decide) (fun hc23 => ?_) (fun hc23 => ?_)
      · skip
        have e24 : ¬ (2 : Int32) = k := hc23
        refine Goes.blk A _ b14_67_4 (pc' := 71) (Ls' := #[.val (.ref gr), .val (.int g), .val (.int (1 : Int32)), .val (.int k), .val (.int (((0 : Int32) + (1 : Int32)) + (1 : Int32)))]) (st' := [(.int (3 : Int32)), (.int ((1 : Int32) + (3 : Int32)))]) rfl ?_
        refine Goes.if2 A d14_71 (by decide) (pc' := 96) (by decide) (fun hc25 => ?_) (fun hc => absurd (cP_t (by decide)) hc)
        refine Goes.blk A _ b14_96_1 (pc' := 97) (Ls' := #[.val (.ref gr), .val (.int g), .val (.int (1 : Int32)), .val (.int k), .val (.int (((0 : Int32) + (1 : Int32)) + (1 : Int32)))]) (st' := [(.int (-1 : Int32))]) rfl ?_
        exact Goes.retI A hret hlk d14_97 (by decide) (by decide) ⟨by simp [rfF, rfL, e2, e15, e17, e22, e24], rfl⟩
      have e26 : k = (2 : Int32) := Eq.symm (Classical.not_not.mp hc23)
      refine Goes.blk A _ b14_63_3 (pc' := 66) (Ls' := #[.val (.ref gr), .val (.int g), .val (.int (1 : Int32)), .val (.int k), .val (.int (((0 : Int32) + (1 : Int32)) + (1 : Int32)))]) (st' := [(.int ((1 : Int32) + (2 : Int32)))]) rfl ?_
      exact Goes.retI A hret hlk d14_66 (by decide) (by decide) ⟨by simp [rfF, rfL, e2, e15, e17, e22, e26], rfl⟩
    have e27 : k = (1 : Int32) := Eq.symm (Classical.not_not.mp hc16)
    refine Goes.blk A _ b14_34_3 (pc' := 37) (Ls' := #[.val (.ref gr), .val (.int g), .val (.int (1 : Int32)), .val (.int k), .val (.int ((0 : Int32) + (1 : Int32)))]) (st' := [(.int ((1 : Int32) + (1 : Int32)))]) rfl ?_
    exact Goes.retI A hret hlk d14_37 (by decide) (by decide) ⟨by simp [rfF, rfL, e2, e15, e27], rfl⟩
  have e28 : k = 0 := (Classical.not_not.mp hc1)
  refine Goes.blk A _ b14_4_1 (pc' := 5) (Ls' := #[.val (.ref gr), .val (.int g), .val (.int (1 : Int32)), .val (.int k), .unset]) (st' := [(.int (1 : Int32))]) rfl ?_
  exact Goes.retI A hret hlk d14_5 (by decide) (by decide) ⟨by simp [rfF, rfL, e28], rfl⟩
set_option maxRecDepth 65536 in
set_option maxHeartbeats 40000000 in
theorem kRF2 (l : Launch) (Z : State) (n0 : Nat) (a0 : Array Value) (hw : ∀ d ∈ tables_1, d.before a0 Z = true) (h : Heap) (Z0 : n0 ≤ h.size) (gr : Addr) (g k g0 g1 g2 g3 : Int32) (R : Rep Z a0 n0 h GB [(gr, true, .inr (.int, [(.int g0), (.int g1), (.int g2), (.int g3)]))]) : Con l Z n0 (⟨"com/example/stillpoint/stillpoint/spec/CallGroupsCallAfterPinLaw", "ref", "([IIII)I"⟩ : MethodName) method_3_code 5 (some .int) ({ frames := 0, cells := 0, slots := 0, locals := 0 } : Room) #[(.ref gr), (.int g), (.int (2 : Int32)), (.int k)] h (fun v h' => v = some (.int (rfF g k 2 [(g3, 3)])) ∧ h = h') := by
  refine Con.mk (Ls := #[.val (.ref gr), .val (.int g), .val (.int (2 : Int32)), .val (.int k), .unset]) (plainFor_of_name pn_com_example_stillpoint_stillpoint_spec_CallGroupsCallAfterPinLaw) (ef14_riii gr g (2 : Int32) k) ?_
  intro p e s m below meth c A hret hlk hnm
  have K : Keep h h [] := Keep.refl _ _
  refine Goes.blk A _ b14_0_1 (pc' := 1) (Ls' := #[.val (.ref gr), .val (.int g), .val (.int (2 : Int32)), .val (.int k), .unset]) (st' := [(.int k)]) rfl ?_
  refine Goes.if1 A d14_1 (by decide) (pc' := 6) (by decide) (fun hc1 => ?_) (fun hc1 => ?_)
  · skip
    have e2 : ¬ k = 0 := hc1
    refine Goes.blk A _ b14_6_6 (pc' := 13) (Ls' := #[.val (.ref gr), .val (.int g), .val (.int (2 : Int32)), .val (.int k), .val (.int (0 : Int32))]) (st' := [(.int (3 : Int32)), (.int ((2 : Int32) + (1 : Int32)))]) rfl ?_
    refine Goes.if2 A d14_13 (by decide) (pc' := 38) (by decide) (fun hc => absurd hc (cP_f (by decide))) (fun hc3 => ?_)
    refine Goes.blk A _ b14_16_4 (pc' := 20) (Ls' := #[.val (.ref gr), .val (.int g), .val (.int (2 : Int32)), .val (.int k), .val (.int (0 : Int32))]) (st' := [(.int ((2 : Int32) + (1 : Int32))), (.ref gr)]) rfl ?_
    refine Goes.iaload A R (i := 0) rfl (k := 3) (by decide) rfl d14_20 ?_
    refine Goes.blk A _ b14_21_1 (pc' := 22) (Ls' := #[.val (.ref gr), .val (.int g), .val (.int (2 : Int32)), .val (.int k), .val (.int (0 : Int32))]) (st' := [(.int g), (.int g3)]) rfl ?_
    refine Goes.if2 A d14_22 (by decide) (pc' := 38) (by decide) (fun hc4 => ?_) (fun hc4 => ?_)
    · skip
      have e5 : ¬ g3 = g := hc4
      refine Goes.blk A _ b14_38_4 (pc' := 42) (Ls' := #[.val (.ref gr), .val (.int g), .val (.int (2 : Int32)), .val (.int k), .val (.int (0 : Int32))]) (st' := [(.int (3 : Int32)), (.int ((2 : Int32) + (2 : Int32)))]) rfl ?_
      refine Goes.if2 A d14_42 (by decide) (pc' := 67) (by decide) (fun hc6 => ?_) (fun hc => absurd (cP_t (by decide)) hc)
      refine Goes.blk A _ b14_67_4 (pc' := 71) (Ls' := #[.val (.ref gr), .val (.int g), .val (.int (2 : Int32)), .val (.int k), .val (.int (0 : Int32))]) (st' := [(.int (3 : Int32)), (.int ((2 : Int32) + (3 : Int32)))]) rfl ?_
      refine Goes.if2 A d14_71 (by decide) (pc' := 96) (by decide) (fun hc7 => ?_) (fun hc => absurd (cP_t (by decide)) hc)
      refine Goes.blk A _ b14_96_1 (pc' := 97) (Ls' := #[.val (.ref gr), .val (.int g), .val (.int (2 : Int32)), .val (.int k), .val (.int (0 : Int32))]) (st' := [(.int (-1 : Int32))]) rfl ?_
      exact Goes.retI A hret hlk d14_97 (by decide) (by decide) ⟨by simp [rfF, rfL, e2, e5], rfl⟩
    have e8 : g3 = g := (Classical.not_not.mp hc4)
    refine Goes.blk A _ b14_25_3 (pc' := 31) (Ls' := #[.val (.ref gr), .val (.int g), .val (.int (2 : Int32)), .val (.int k), .val (.int ((0 : Int32) + (1 : Int32)))]) (st' := [(.int k), (.int ((0 : Int32) + (1 : Int32)))]) rfl ?_
    refine Goes.if2 A d14_31 (by decide) (pc' := 38) (by decide) (fun hc9 => ?_) (fun hc9 => ?_)
    · skip
      have e10 : ¬ (1 : Int32) = k := hc9
      refine Goes.blk A _ b14_38_4 (pc' := 42) (Ls' := #[.val (.ref gr), .val (.int g), .val (.int (2 : Int32)), .val (.int k), .val (.int ((0 : Int32) + (1 : Int32)))]) (st' := [(.int (3 : Int32)), (.int ((2 : Int32) + (2 : Int32)))]) rfl ?_
      refine Goes.if2 A d14_42 (by decide) (pc' := 67) (by decide) (fun hc11 => ?_) (fun hc => absurd (cP_t (by decide)) hc)
      refine Goes.blk A _ b14_67_4 (pc' := 71) (Ls' := #[.val (.ref gr), .val (.int g), .val (.int (2 : Int32)), .val (.int k), .val (.int ((0 : Int32) + (1 : Int32)))]) (st' := [(.int (3 : Int32)), (.int ((2 : Int32) + (3 : Int32)))]) rfl ?_
      refine Goes.if2 A d14_71 (by decide) (pc' := 96) (by decide) (fun hc12 => ?_) (fun hc => absurd (cP_t (by decide)) hc)
      refine Goes.blk A _ b14_96_1 (pc' := 97) (Ls' := #[.val (.ref gr), .val (.int g), .val (.int (2 : Int32)), .val (.int k), .val (.int ((0 : Int32) + (1 : Int32)))]) (st' := [(.int (-1 : Int32))]) rfl ?_
      exact Goes.retI A hret hlk d14_97 (by decide) (by decide) ⟨by simp [rfF, rfL, e2, e8, e10], rfl⟩
    have e13 : k = (1 : Int32) := Eq.symm (Classical.not_not.mp hc9)
    refine Goes.blk A _ b14_34_3 (pc' := 37) (Ls' := #[.val (.ref gr), .val (.int g), .val (.int (2 : Int32)), .val (.int k), .val (.int ((0 : Int32) + (1 : Int32)))]) (st' := [(.int ((2 : Int32) + (1 : Int32)))]) rfl ?_
    exact Goes.retI A hret hlk d14_37 (by decide) (by decide) ⟨by simp [rfF, rfL, e2, e8, e13], rfl⟩
  have e14 : k = 0 := (Classical.not_not.mp hc1)
  refine Goes.blk A _ b14_4_1 (pc' := 5) (Ls' := #[.val (.ref gr), .val (.int g), .val (.int (2 : Int32)), .val (.int k), .unset]) (st' := [(.int (2 : Int32))]) rfl ?_
  exact Goes.retI A hret hlk d14_5 (by decide) (by decide) ⟨by simp [rfF, rfL, e14], rfl⟩
set_option maxRecDepth 65536 in
set_option maxHeartbeats 40000000 in
theorem kRF3 (l : Launch) (Z : State) (n0 : Nat) (a0 : Array Value) (hw : ∀ d ∈ tables_1, d.before a0 Z = true) (h : Heap) (Z0 : n0 ≤ h.size) (gr : Addr) (g k g0 g1 g2 g3 : Int32) (R : Rep Z a0 n0 h GB [(gr, true, .inr (.int, [(.int g0), (.int g1), (.int g2), (.int g3)]))]) : Con l Z n0 (⟨"com/example/stillpoint/stillpoint/spec/CallGroupsCallAfterPinLaw", "ref", "([IIII)I"⟩ : MethodName) method_3_code 5 (some .int) ({ frames := 0, cells := 0, slots := 0, locals := 0 } : Room) #[(.ref gr), (.int g), (.int (3 : Int32)), (.int k)] h (fun v h' => v = some (.int (rfF g k 3 [])) ∧ h = h') := by
  refine Con.mk (Ls := #[.val (.ref gr), .val (.int g), .val (.int (3 : Int32)), .val (.int k), .unset]) (plainFor_of_name pn_com_example_stillpoint_stillpoint_spec_CallGroupsCallAfterPinLaw) (ef14_riii gr g (3 : Int32) k) ?_
  intro p e s m below meth c A hret hlk hnm
  have K : Keep h h [] := Keep.refl _ _
  refine Goes.blk A _ b14_0_1 (pc' := 1) (Ls' := #[.val (.ref gr), .val (.int g), .val (.int (3 : Int32)), .val (.int k), .unset]) (st' := [(.int k)]) rfl ?_
  refine Goes.if1 A d14_1 (by decide) (pc' := 6) (by decide) (fun hc1 => ?_) (fun hc1 => ?_)
  · skip
    have e2 : ¬ k = 0 := hc1
    refine Goes.blk A _ b14_6_6 (pc' := 13) (Ls' := #[.val (.ref gr), .val (.int g), .val (.int (3 : Int32)), .val (.int k), .val (.int (0 : Int32))]) (st' := [(.int (3 : Int32)), (.int ((3 : Int32) + (1 : Int32)))]) rfl ?_
    refine Goes.if2 A d14_13 (by decide) (pc' := 38) (by decide) (fun hc3 => ?_) (fun hc => absurd (cP_t (by decide)) hc)
    refine Goes.blk A _ b14_38_4 (pc' := 42) (Ls' := #[.val (.ref gr), .val (.int g), .val (.int (3 : Int32)), .val (.int k), .val (.int (0 : Int32))]) (st' := [(.int (3 : Int32)), (.int ((3 : Int32) + (2 : Int32)))]) rfl ?_
    refine Goes.if2 A d14_42 (by decide) (pc' := 67) (by decide) (fun hc4 => ?_) (fun hc => absurd (cP_t (by decide)) hc)
    refine Goes.blk A _ b14_67_4 (pc' := 71) (Ls' := #[.val (.ref gr), .val (.int g), .val (.int (3 : Int32)), .val (.int k), .val (.int (0 : Int32))]) (st' := [(.int (3 : Int32)), (.int ((3 : Int32) + (3 : Int32)))]) rfl ?_
    refine Goes.if2 A d14_71 (by decide) (pc' := 96) (by decide) (fun hc5 => ?_) (fun hc => absurd (cP_t (by decide)) hc)
    refine Goes.blk A _ b14_96_1 (pc' := 97) (Ls' := #[.val (.ref gr), .val (.int g), .val (.int (3 : Int32)), .val (.int k), .val (.int (0 : Int32))]) (st' := [(.int (-1 : Int32))]) rfl ?_
    exact Goes.retI A hret hlk d14_97 (by decide) (by decide) ⟨by simp [rfF, rfL, e2], rfl⟩
  have e6 : k = 0 := (Classical.not_not.mp hc1)
  refine Goes.blk A _ b14_4_1 (pc' := 5) (Ls' := #[.val (.ref gr), .val (.int g), .val (.int (3 : Int32)), .val (.int k), .unset]) (st' := [(.int (3 : Int32))]) rfl ?_
  exact Goes.retI A hret hlk d14_5 (by decide) (by decide) ⟨by simp [rfF, rfL, e6], rfl⟩
def bmp (j c g : Int32) : Int32 := if g = j then c + 1 else c
def plc (f0 f1 f2 g : Int32) : Int32 := if g = 0 then f0 else if g = 1 then f1 else if g = 2 then f2 else -1
def stb (bl : List Value) (g q k : Int32) : List Value := if g = -1 then bl else bl.set q.toInt.toNat (.int k)
theorem stb_len (bl : List Value) (g q k : Int32) : (stb bl g q k).length = bl.length := by unfold stb; split <;> simp
def T1 (g0 g1 g2 g3 : Int32) : Int32 := bmp 0 (bmp 0 (bmp 0 (bmp 0 0 g0) g1) g2) g3 + 0
def T2 (g0 g1 g2 g3 : Int32) : Int32 := bmp 1 (bmp 1 (bmp 1 (bmp 1 0 g0) g1) g2) g3 + T1 g0 g1 g2 g3
def T3 (g0 g1 g2 g3 : Int32) : Int32 := bmp 2 (bmp 2 (bmp 2 (bmp 2 0 g0) g1) g2) g3 + T2 g0 g1 g2 g3
def P0 (g0 g1 g2 g3 : Int32) : Int32 := plc 0 (T1 g0 g1 g2 g3) (T2 g0 g1 g2 g3) g0
def P1 (g0 g1 g2 g3 : Int32) : Int32 := plc (bmp 0 0 g0) (bmp 1 (T1 g0 g1 g2 g3) g0) (bmp 2 (T2 g0 g1 g2 g3) g0) g1
def P2 (g0 g1 g2 g3 : Int32) : Int32 := plc (bmp 0 (bmp 0 0 g0) g1) (bmp 1 (bmp 1 (T1 g0 g1 g2 g3) g0) g1) (bmp 2 (bmp 2 (T2 g0 g1 g2 g3) g0) g1) g2
def P3 (g0 g1 g2 g3 : Int32) : Int32 := plc (bmp 0 (bmp 0 (bmp 0 0 g0) g1) g2) (bmp 1 (bmp 1 (bmp 1 (T1 g0 g1 g2 g3) g0) g1) g2) (bmp 2 (bmp 2 (bmp 2 (T2 g0 g1 g2 g3) g0) g1) g2) g3
def BGF (g0 g1 g2 g3 : Int32) : List Value := stb (stb (stb (stb (List.replicate (T3 g0 g1 g2 g3).toInt.toNat (.int 0)) g0 (P0 g0 g1 g2 g3) 0) g1 (P1 g0 g1 g2 g3) 1) g2 (P2 g0 g1 g2 g3) 2) g3 (P3 g0 g1 g2 g3) 3
def okP (g q t : Int32) : Bool := decide (g = -1) || (decide (0 ≤ q.toInt) && decide (q.toInt < t.toInt))
def ok6 (q : Int32) : Bool := decide (q.toInt < 0) || decide (q >>> ((6 : Int32) &&& 31) = 0)
def pureB (g0 g1 g2 g3 : Int32) : Bool := decide (0 ≤ (T3 g0 g1 g2 g3).toInt) && decide ((T3 g0 g1 g2 g3).toInt ≤ 4) && okP g0 (P0 g0 g1 g2 g3) (T3 g0 g1 g2 g3) && okP g1 (P1 g0 g1 g2 g3) (T3 g0 g1 g2 g3) && okP g2 (P2 g0 g1 g2 g3) (T3 g0 g1 g2 g3) && okP g3 (P3 g0 g1 g2 g3) (T3 g0 g1 g2 g3) && ok6 (P0 g0 g1 g2 g3) && ok6 (P1 g0 g1 g2 g3) && ok6 (P2 g0 g1 g2 g3) && ok6 (P3 g0 g1 g2 g3)
def gv (i : Fin 4) : Int32 := Int32.ofNat i.val - 1
theorem gv_of {g : Int32} (q : g = -1 ∨ g = 0 ∨ g = 1 ∨ g = 2) : ∃ i : Fin 4, g = gv i := by
  rcases q with rfl | rfl | rfl | rfl
  · exact ⟨0, by decide⟩
  · exact ⟨1, by decide⟩
  · exact ⟨2, by decide⟩
  · exact ⟨3, by decide⟩
set_option maxRecDepth 65536 in
theorem pure_all : ∀ i0 i1 i2 i3 : Fin 4, pureB (gv i0) (gv i1) (gv i2) (gv i3) = true := by decide +kernel
def mainB (g0 g1 g2 g3 g q k cl : Int32) (xs : List (Int32 × Int32)) : Bool := decide (g = -1) || (
  decide ((g + 1).toInt = ((g + 1).toInt.toNat : Int)) && (match [Value.int 0, .int (T1 g0 g1 g2 g3), .int (T2 g0 g1 g2 g3), .int (T3 g0 g1 g2 g3)][(g + 1).toInt.toNat]? with
  | some (.int s) => if (q + k).toInt < s.toInt then decide ((q + k).toInt = ((q + k).toInt.toNat : Int)) && decide ((BGF g0 g1 g2 g3)[(q + k).toInt.toNat]? = some (.int (rfF g k cl xs))) else decide (rfF g k cl xs = -1)
  | _ => false))
theorem mainB_ok {g0 g1 g2 g3 g q k cl : Int32} {xs : List (Int32 × Int32)} (hm : mainB g0 g1 g2 g3 g q k cl xs = true) (hg : ¬ g = -1) : ∃ (n2 : Nat) (s : Int32), (g + 1).toInt = n2 ∧ [Value.int 0, .int (T1 g0 g1 g2 g3), .int (T2 g0 g1 g2 g3), .int (T3 g0 g1 g2 g3)][n2]? = some (.int s) ∧ ((q + k).toInt < s.toInt → ∃ n3 : Nat, (q + k).toInt = n3 ∧ (BGF g0 g1 g2 g3)[n3]? = some (.int (rfF g k cl xs))) ∧ (¬ (q + k).toInt < s.toInt → rfF g k cl xs = -1) := by
  simp only [mainB, hg, decide_false, Bool.false_or, Bool.and_eq_true, decide_eq_true_eq] at hm
  obtain ⟨h1, h2⟩ := hm
  split at h2
  · rename_i s hs
    refine ⟨_, s, h1, hs, fun q1 => ?_, fun q1 => ?_⟩
    · rw [if_pos q1] at h2
      simp only [Bool.and_eq_true, decide_eq_true_eq] at h2
      exact ⟨_, h2.1, h2.2⟩
    · rw [if_neg q1] at h2
      exact of_decide_eq_true h2
  · cases h2
set_option maxRecDepth 65536 in
theorem main_all0 : ∀ (i0 i1 i2 i3 : Fin 4) (k : Fin 8), mainB (gv i0) (gv i1) (gv i2) (gv i3) (gv i0) (P0 (gv i0) (gv i1) (gv i2) (gv i3)) (Int32.ofNat k.val) 0 [(gv i1, 1), (gv i2, 2), (gv i3, 3)] = true := by decide +kernel
set_option maxRecDepth 65536 in
theorem main_all1 : ∀ (i0 i1 i2 i3 : Fin 4) (k : Fin 8), mainB (gv i0) (gv i1) (gv i2) (gv i3) (gv i1) (P1 (gv i0) (gv i1) (gv i2) (gv i3)) (Int32.ofNat k.val) 1 [(gv i2, 2), (gv i3, 3)] = true := by decide +kernel
set_option maxRecDepth 65536 in
theorem main_all2 : ∀ (i0 i1 i2 i3 : Fin 4) (k : Fin 8), mainB (gv i0) (gv i1) (gv i2) (gv i3) (gv i2) (P2 (gv i0) (gv i1) (gv i2) (gv i3)) (Int32.ofNat k.val) 2 [(gv i3, 3)] = true := by decide +kernel
set_option maxRecDepth 65536 in
theorem main_all3 : ∀ (i0 i1 i2 i3 : Fin 4) (k : Fin 8), mainB (gv i0) (gv i1) (gv i2) (gv i3) (gv i3) (P3 (gv i0) (gv i1) (gv i2) (gv i3)) (Int32.ofNat k.val) 3 [] = true := by decide +kernel
theorem own_k8 {k : Int32} (q : 0 ≤ k.toInt ∧ k.toInt < 8) : ∃ j : Fin 8, k = Int32.ofNat j.val := by
  refine ⟨⟨k.toInt.toNat, by omega⟩, Int32.toInt_inj.mp ?_⟩
  show k.toInt = (k.toInt.toNat.toInt32).toInt
  rw [len_toInt (by omega)]; omega
theorem own_mask3 (x : Int32) : x &&& 3 = 0 ∨ x &&& 3 = 1 ∨ x &&& 3 = 2 ∨ x &&& 3 = 3 := by
  have q := c_and x 3 (by decide)
  have e3 : (3 : Int32).toInt = 3 := by decide
  rcases (by omega : (x &&& 3).toInt = 0 ∨ (x &&& 3).toInt = 1 ∨ (x &&& 3).toInt = 2 ∨ (x &&& 3).toInt = 3) with r | r | r | r
  · exact Or.inl (Int32.toInt_inj.mp (r.trans (by decide)))
  · exact Or.inr (Or.inl (Int32.toInt_inj.mp (r.trans (by decide))))
  · exact Or.inr (Or.inr (Or.inl (Int32.toInt_inj.mp (r.trans (by decide)))))
  · exact Or.inr (Or.inr (Or.inr (Int32.toInt_inj.mp (r.trans (by decide)))))
theorem own_g (x : Int32) : (x &&& 3) - 1 = -1 ∨ (x &&& 3) - 1 = 0 ∨ (x &&& 3) - 1 = 1 ∨ (x &&& 3) - 1 = 2 := by
  rcases own_mask3 x with r | r | r | r <;> rw [r] <;> decide
theorem ok6_of {q : Int32} (hq : ok6 q = true) (h0 : 0 ≤ q.toInt) : q >>> ((6 : Int32) &&& 31) = 0 := by
  simp only [ok6, Bool.or_eq_true, decide_eq_true_eq] at hq
  rcases hq with r | r
  · omega
  · exact r
theorem okP_of {g q t : Int32} (hq : okP g q t = true) (h0 : ¬ g = -1) : 0 ≤ q.toInt ∧ q.toInt < t.toInt := by
  simp only [okP, h0, decide_false, Bool.false_or, Bool.and_eq_true, decide_eq_true_eq] at hq
  exact hq

set_option maxRecDepth 65536 in
set_option maxHeartbeats 40000000 in
theorem kCT (l : Launch) (Z : State) (n0 : Nat) (a0 : Array Value) (hw : ∀ d ∈ tables_1, d.before a0 Z = true) (h : Heap) (Z0 : n0 ≤ h.size) (cg gr : Addr) (g0 g1 g2 g3 : Int32) (hg0 : g0 = -1 ∨ g0 = 0 ∨ g0 = 1 ∨ g0 = 2) (hg1 : g1 = -1 ∨ g1 = 0 ∨ g1 = 1 ∨ g1 = 2) (hg2 : g2 = -1 ∨ g2 = 0 ∨ g2 = 1 ∨ g2 = 2) (hg3 : g3 = -1 ∨ g3 = 0 ∨ g3 = 1 ∨ g3 = 2) (hP : pureB g0 g1 g2 g3 = true) (R : Rep Z a0 n0 h GB [(cg, true, .inl ("com/example/stillpoint/stillpoint/spec/CallGroups", (CGs .null .null .null .null .null .null .null))), (gr, true, .inr (.int, [(.int g0), (.int g1), (.int g2), (.int g3)]))]) : Con l Z n0 (⟨"com/example/stillpoint/stillpoint/spec/CallGroups", "<init>", "([II[I)V"⟩ : MethodName) prog_81_method_2_code 8 none ({ frames := 3, cells := 6, slots := 19, locals := 49 } : Room) #[(.ref cg), (.ref gr), (.int (3 : Int32)), .null] h (fun v h' => ∃ bs wd st bg po fl u w f0 f1 f2, (u = 0 ∨ u = 1) ∧ v = none ∧ h.size ≤ bs ∧ h.size ≤ wd ∧ h.size ≤ st ∧ h.size ≤ bg ∧ h.size ≤ po ∧ h.size ≤ fl ∧ Keep h h' [cg] ∧ Rep Z a0 n0 h' GB [(cg, true, .inl ("com/example/stillpoint/stillpoint/spec/CallGroups", (CGs (.ref bg) (.ref st) (.ref po) (.ref bs) .null .null .null))), (gr, true, .inr (.int, [(.int g0), (.int g1), (.int g2), (.int g3)])), (bs, true, .inl ("java/util/BitSet", (BSs (.ref wd) (.int u) (.int (0 : Int32))))), (wd, true, .inr (.long, [(.long w)])), (st, true, .inr (.int, [(.int (0 : Int32)), (.int (T1 g0 g1 g2 g3)), (.int (T2 g0 g1 g2 g3)), (.int (T3 g0 g1 g2 g3))])), (bg, true, .inr (.int, (BGF g0 g1 g2 g3))), (po, true, .inr (.int, [(.int (P0 g0 g1 g2 g3)), (.int (P1 g0 g1 g2 g3)), (.int (P2 g0 g1 g2 g3)), (.int (P3 g0 g1 g2 g3))])), (fl, true, .inr (.int, [(.int f0), (.int f1), (.int f2)]))]) := by
  refine Con.mk (Ls := #[.val (.ref cg), .val (.ref gr), .val (.int (3 : Int32)), .val .null, .unset, .unset, .unset, .unset]) (plainFor_of_name pn_com_example_stillpoint_stillpoint_spec_CallGroups) (ef1_rrin cg gr (3 : Int32)) ?_
  intro p e s m below meth c A hret hlk hnm
  have K : Keep h h [cg] := Keep.refl _ _
  simp only [pureB, Bool.and_eq_true, decide_eq_true_eq] at hP
  obtain ⟨⟨⟨⟨⟨⟨⟨⟨⟨hN0, hN4⟩, hB0⟩, hB1⟩, hB2⟩, hB3⟩, -⟩, -⟩, -⟩, -⟩ := hP
  refine Goes.blk A _ b1_0_1 (pc' := 1) (Ls' := #[.val (.ref cg), .val (.ref gr), .val (.int (3 : Int32)), .val .null, .unset, .unset, .unset, .unset]) (st' := [(.ref cg)]) rfl ?_
  refine Goes.initO A (hw _ (List.mem_of_getElem? (i := 7) rfl)) (hw _ (List.mem_of_getElem? (i := 8) rfl)) (hw _ (List.mem_of_getElem? (i := 9) rfl)) d1_1 rfl (W := 0) (Nat.le_of_ble_eq_true rfl) (by decide) (by decide) ?_
  refine Goes.blk A _ b1_4_1 (pc' := 5) (Ls' := #[.val (.ref cg), .val (.ref gr), .val (.int (3 : Int32)), .val .null, .unset, .unset, .unset, .unset]) (st' := [(.ref cg)]) rfl ?_
  refine Goes.newObj A (hw _ (List.mem_of_getElem? (i := 10) rfl)) (hw _ (List.mem_of_getElem? (i := 11) rfl)) (hw _ (List.mem_of_getElem? (i := 12) rfl)) R K Z0 (fs := (BSs .null (.int (0 : Int32)) (.int (0 : Int32)))) ⟨⟨Or.inl (hw _ (List.mem_of_getElem? (i := 31) rfl)), (.array .long), by decide, rfl⟩, ⟨Or.inl (hw _ (List.mem_of_getElem? (i := 18) rfl)), .int, by decide, rfl⟩, ⟨Or.inl (hw _ (List.mem_of_getElem? (i := 20) rfl)), .boolean, by decide, rfl⟩, trivial⟩ (by decide) d1_5 (by decide) (by decide) (fun b1 h2 zs2 zt2 K2 R2 => ?_)
  replace R2 : Rep Z a0 n0 h2 GB [(cg, true, .inl ("com/example/stillpoint/stillpoint/spec/CallGroups", (CGs .null .null .null .null .null .null .null))), (gr, true, .inr (.int, [(.int g0), (.int g1), (.int g2), (.int g3)])), (b1, true, .inl ("java/util/BitSet", (BSs .null (.int (0 : Int32)) (.int (0 : Int32)))))] := R2
  show Goes p l e _ s m _ below meth c n0 _ h2 1 3 8 #[.val (.ref cg), .val (.ref gr), .val (.int (3 : Int32)), .val .null, .unset, .unset, .unset, .unset] [(.ref b1), (.ref cg)]
  refine Goes.blk A _ b1_8_1 (pc' := 9) (Ls' := #[.val (.ref cg), .val (.ref gr), .val (.int (3 : Int32)), .val .null, .unset, .unset, .unset, .unset]) (st' := [(.ref b1), (.ref b1), (.ref cg)]) rfl ?_
  refine Goes.spec A rfl (hw _ (List.mem_of_getElem? (i := 13) rfl)) (hw _ (List.mem_of_getElem? (i := 14) rfl)) (hw _ (List.mem_of_getElem? (i := 12) rfl)) (hw _ (List.mem_of_getElem? (i := 15) rfl)) d1_9 pd_248334 (by decide) (a := b1) (argsL := []) (rest := [(.ref b1), (.ref cg)]) rfl rfl rfl (W := 2) (Nat.le_of_ble_eq_true rfl) (by decide) (by decide) (by decide) (by decide) (kBI l Z n0 a0 hw h2 (Nat.le_trans Z0 K2.1) b1 (R2.pick [0] [2] rfl rfl (by decide))) (fun v h3 hh => ?_)
  obtain ⟨wd, rfl, zt3_0, Kc3, Rc3⟩ := hh
  have R3 := R2.upd Kc3 [2] Rc3 (Nat.le_of_ble_eq_true rfl) rfl [2] rfl (by decide) (alS zt3_0 al0)
  have K3 := K2.trans Kc3 (alS (Or.inr zs2) al0)
  replace R3 : Rep Z a0 n0 h3 GB [(cg, true, .inl ("com/example/stillpoint/stillpoint/spec/CallGroups", (CGs .null .null .null .null .null .null .null))), (gr, true, .inr (.int, [(.int g0), (.int g1), (.int g2), (.int g3)])), (b1, true, .inl ("java/util/BitSet", (BSs (.ref wd) (.int (0 : Int32)) (.int (0 : Int32))))), (wd, true, .inr (.long, [(.long (0 : Int64))]))] := R3
  show Goes p l e _ s m _ below meth c n0 _ h3 2 4 12 #[.val (.ref cg), .val (.ref gr), .val (.int (3 : Int32)), .val .null, .unset, .unset, .unset, .unset] [(.ref b1), (.ref cg)]
  refine Goes.put A (hw _ (List.mem_of_getElem? (i := 32) rfl)) Via.refl R3 K3 (i := 0) (j := 3) rfl rfl (Or.inl (List.mem_of_getElem? (i := 0) rfl)) (Or.inr ⟨(hw _ (List.mem_of_getElem? (i := 33) rfl)), rfl, hnm⟩) (hw _ (List.mem_of_getElem? (i := 2) rfl)) (ty := (.object "java/util/BitSet")) (by decide) rfl rfl d1_12 (fun h4 K4 R4 => ?_)
  replace R4 : Rep Z a0 n0 h4 GB [(cg, true, .inl ("com/example/stillpoint/stillpoint/spec/CallGroups", (CGs .null .null .null (.ref b1) .null .null .null))), (gr, true, .inr (.int, [(.int g0), (.int g1), (.int g2), (.int g3)])), (b1, true, .inl ("java/util/BitSet", (BSs (.ref wd) (.int (0 : Int32)) (.int (0 : Int32))))), (wd, true, .inr (.long, [(.long (0 : Int64))]))] := R4
  refine Goes.blk A _ b1_15_4 (pc' := 19) (Ls' := #[.val (.ref cg), .val (.ref gr), .val (.int (3 : Int32)), .val .null, .unset, .unset, .unset, .unset]) (st' := [(.int ((3 : Int32) + (1 : Int32))), (.ref cg)]) rfl ?_
  refine Goes.newArr A (hw _ (List.mem_of_getElem? (i := 0) rfl)) R4 K4 Z0 d1_19 (k := 4) (by decide) (cap := 4) (by decide) (by decide) (by decide) (by decide) (fun b5 h6 zs6 zt6 K6 R6 => ?_)
  replace R6 : Rep Z a0 n0 h6 GB [(cg, true, .inl ("com/example/stillpoint/stillpoint/spec/CallGroups", (CGs .null .null .null (.ref b1) .null .null .null))), (gr, true, .inr (.int, [(.int g0), (.int g1), (.int g2), (.int g3)])), (b1, true, .inl ("java/util/BitSet", (BSs (.ref wd) (.int (0 : Int32)) (.int (0 : Int32))))), (wd, true, .inr (.long, [(.long (0 : Int64))])), (b5, true, .inr (.int, [(.int (0 : Int32)), (.int (0 : Int32)), (.int (0 : Int32)), (.int (0 : Int32))]))] := R6
  show Goes p l e _ s m _ below meth c n0 _ h6 3 8 21 #[.val (.ref cg), .val (.ref gr), .val (.int (3 : Int32)), .val .null, .unset, .unset, .unset, .unset] [(.ref b5), (.ref cg)]
  refine Goes.put A (hw _ (List.mem_of_getElem? (i := 34) rfl)) Via.refl R6 K6 (i := 0) (j := 1) rfl rfl (Or.inl (List.mem_of_getElem? (i := 0) rfl)) (Or.inr ⟨(hw _ (List.mem_of_getElem? (i := 35) rfl)), rfl, hnm⟩) (hw _ (List.mem_of_getElem? (i := 2) rfl)) (ty := (.array .int)) (by decide) rfl rfl d1_21 (fun h7 K7 R7 => ?_)
  replace R7 : Rep Z a0 n0 h7 GB [(cg, true, .inl ("com/example/stillpoint/stillpoint/spec/CallGroups", (CGs .null (.ref b5) .null (.ref b1) .null .null .null))), (gr, true, .inr (.int, [(.int g0), (.int g1), (.int g2), (.int g3)])), (b1, true, .inl ("java/util/BitSet", (BSs (.ref wd) (.int (0 : Int32)) (.int (0 : Int32))))), (wd, true, .inr (.long, [(.long (0 : Int64))])), (b5, true, .inr (.int, [(.int (0 : Int32)), (.int (0 : Int32)), (.int (0 : Int32)), (.int (0 : Int32))]))] := R7
  refine Goes.blk A _ b1_24_3 (pc' := 29) (Ls' := #[.val (.ref cg), .val (.ref gr), .val (.int (3 : Int32)), .val .null, .val (.ref gr), .unset, .unset, .unset]) (st' := [(.ref gr)]) rfl ?_
  refine Goes.alen A R7 (i := 1) rfl (z := 4) (by rfl) d1_29 ?_
  refine Goes.blk A _ b1_30_5 (pc' := 39) (Ls' := #[.val (.ref cg), .val (.ref gr), .val (.int (3 : Int32)), .val .null, .val (.ref gr), .val (.int (4 : Int32)), .val (.int (0 : Int32)), .unset]) (st' := [(.int (4 : Int32)), (.int (0 : Int32))]) rfl ?_
  refine Goes.if2 A d1_39 (by decide) (pc' := 73) (by decide) (fun hc => absurd hc (cP_f (by decide))) (fun hc8 => ?_)
  refine Goes.blk A _ b1_42_2 (pc' := 46) (Ls' := #[.val (.ref cg), .val (.ref gr), .val (.int (3 : Int32)), .val .null, .val (.ref gr), .val (.int (4 : Int32)), .val (.int (0 : Int32)), .unset]) (st' := [(.int (0 : Int32)), (.ref gr)]) rfl ?_
  refine Goes.iaload A R7 (i := 1) rfl (k := 0) (by decide) rfl d1_46 ?_
  refine Goes.blk A _ b1_47_2 (pc' := 51) (Ls' := #[.val (.ref cg), .val (.ref gr), .val (.int (3 : Int32)), .val .null, .val (.ref gr), .val (.int (4 : Int32)), .val (.int (0 : Int32)), .val (.int g0)]) (st' := [(.int g0)]) rfl ?_
  suffices J9 : ∀ (x0_0 x0_1 x0_2 : Int32) (h9 : Heap), x0_0 = bmp 0 (0 : Int32) g0 → x0_1 = bmp 1 (0 : Int32) g0 → x0_2 = bmp 2 (0 : Int32) g0 → Keep h h9 [cg] → Rep Z a0 n0 h9 GB [(cg, true, .inl ("com/example/stillpoint/stillpoint/spec/CallGroups", (CGs .null (.ref b5) .null (.ref b1) .null .null .null))), (gr, true, .inr (.int, [(.int g0), (.int g1), (.int g2), (.int g3)])), (b1, true, .inl ("java/util/BitSet", (BSs (.ref wd) (.int (0 : Int32)) (.int (0 : Int32))))), (wd, true, .inr (.long, [(.long (0 : Int64))])), (b5, true, .inr (.int, [(.int (0 : Int32)), (.int x0_0), (.int x0_1), (.int x0_2)]))] → Goes p l e ({ frames := 3, cells := 6, slots := 19, locals := 49 } : Room) s m #[(.ref cg), (.ref gr), (.int (3 : Int32)), .null] below meth c n0 (fun v h' => ∃ bs wd st bg po fl u w f0 f1 f2, (u = 0 ∨ u = 1) ∧ v = none ∧ h.size ≤ bs ∧ h.size ≤ wd ∧ h.size ≤ st ∧ h.size ≤ bg ∧ h.size ≤ po ∧ h.size ≤ fl ∧ Keep h h' [cg] ∧ Rep Z a0 n0 h' GB [(cg, true, .inl ("com/example/stillpoint/stillpoint/spec/CallGroups", (CGs (.ref bg) (.ref st) (.ref po) (.ref bs) .null .null .null))), (gr, true, .inr (.int, [(.int g0), (.int g1), (.int g2), (.int g3)])), (bs, true, .inl ("java/util/BitSet", (BSs (.ref wd) (.int u) (.int (0 : Int32))))), (wd, true, .inr (.long, [(.long w)])), (st, true, .inr (.int, [(.int (0 : Int32)), (.int (T1 g0 g1 g2 g3)), (.int (T2 g0 g1 g2 g3)), (.int (T3 g0 g1 g2 g3))])), (bg, true, .inr (.int, (BGF g0 g1 g2 g3))), (po, true, .inr (.int, [(.int (P0 g0 g1 g2 g3)), (.int (P1 g0 g1 g2 g3)), (.int (P2 g0 g1 g2 g3)), (.int (P3 g0 g1 g2 g3))])), (fl, true, .inr (.int, [(.int f0), (.int f1), (.int f2)]))]) h9 3 8 67 #[.val (.ref cg), .val (.ref gr), .val (.int (3 : Int32)), .val .null, .val (.ref gr), .val (.int (4 : Int32)), .val (.int (0 : Int32)), .val (.int g0)] [] by
    rcases hg0 with rfl | rfl | rfl | rfl
    · skip
      refine Goes.if1 A d1_51 (by decide) (pc' := 67) (by decide) (fun hc10 => ?_) (fun hc => absurd (cP_t (by decide)) hc)
      exact J9 _ _ _ _ rfl rfl rfl K7 R7
    · skip
      refine Goes.if1 A d1_51 (by decide) (pc' := 67) (by decide) (fun hc => absurd hc (cP_f (by decide))) (fun hc11 => ?_)
      refine Goes.blk A _ b1_54_1 (pc' := 55) (Ls' := #[.val (.ref cg), .val (.ref gr), .val (.int (3 : Int32)), .val .null, .val (.ref gr), .val (.int (4 : Int32)), .val (.int (0 : Int32)), .val (.int (0 : Int32))]) (st' := [(.ref cg)]) rfl ?_
      refine Goes.getF A (hw _ (List.mem_of_getElem? (i := 34) rfl)) Via.refl (R7.fld (i := 0) (j := 1) rfl rfl) d1_55 ?_
      refine Goes.blk A _ b1_58_4 (pc' := 63) (Ls' := #[.val (.ref cg), .val (.ref gr), .val (.int (3 : Int32)), .val .null, .val (.ref gr), .val (.int (4 : Int32)), .val (.int (0 : Int32)), .val (.int (0 : Int32))]) (st' := [(.int ((0 : Int32) + (1 : Int32))), (.ref b5), (.int ((0 : Int32) + (1 : Int32))), (.ref b5)]) rfl ?_
      refine Goes.iaload A R7 (i := 4) rfl (k := 1) (by decide) rfl d1_63 ?_
      refine Goes.blk A _ b1_64_2 (pc' := 66) (Ls' := #[.val (.ref cg), .val (.ref gr), .val (.int (3 : Int32)), .val .null, .val (.ref gr), .val (.int (4 : Int32)), .val (.int (0 : Int32)), .val (.int (0 : Int32))]) (st' := [(.int ((0 : Int32) + (1 : Int32))), (.int ((0 : Int32) + (1 : Int32))), (.ref b5)]) rfl ?_
      refine Goes.iastore A R7 K7 (i := 4) rfl (Or.inr zs6) (k := 1) (by decide) (Nat.le_of_ble_eq_true rfl) d1_66 (fun h12 K12 R12 => ?_)
      replace R12 : Rep Z a0 n0 h12 GB [(cg, true, .inl ("com/example/stillpoint/stillpoint/spec/CallGroups", (CGs .null (.ref b5) .null (.ref b1) .null .null .null))), (gr, true, .inr (.int, [(.int (0 : Int32)), (.int g1), (.int g2), (.int g3)])), (b1, true, .inl ("java/util/BitSet", (BSs (.ref wd) (.int (0 : Int32)) (.int (0 : Int32))))), (wd, true, .inr (.long, [(.long (0 : Int64))])), (b5, true, .inr (.int, [(.int (0 : Int32)), (.int ((0 : Int32) + (1 : Int32))), (.int (0 : Int32)), (.int (0 : Int32))]))] := R12
      exact J9 _ _ _ _ rfl rfl rfl K12 R12
    · skip
      refine Goes.if1 A d1_51 (by decide) (pc' := 67) (by decide) (fun hc => absurd hc (cP_f (by decide))) (fun hc13 => ?_)
      refine Goes.blk A _ b1_54_1 (pc' := 55) (Ls' := #[.val (.ref cg), .val (.ref gr), .val (.int (3 : Int32)), .val .null, .val (.ref gr), .val (.int (4 : Int32)), .val (.int (0 : Int32)), .val (.int (1 : Int32))]) (st' := [(.ref cg)]) rfl ?_
      refine Goes.getF A (hw _ (List.mem_of_getElem? (i := 34) rfl)) Via.refl (R7.fld (i := 0) (j := 1) rfl rfl) d1_55 ?_
      refine Goes.blk A _ b1_58_4 (pc' := 63) (Ls' := #[.val (.ref cg), .val (.ref gr), .val (.int (3 : Int32)), .val .null, .val (.ref gr), .val (.int (4 : Int32)), .val (.int (0 : Int32)), .val (.int (1 : Int32))]) (st' := [(.int ((1 : Int32) + (1 : Int32))), (.ref b5), (.int ((1 : Int32) + (1 : Int32))), (.ref b5)]) rfl ?_
      refine Goes.iaload A R7 (i := 4) rfl (k := 2) (by decide) rfl d1_63 ?_
      refine Goes.blk A _ b1_64_2 (pc' := 66) (Ls' := #[.val (.ref cg), .val (.ref gr), .val (.int (3 : Int32)), .val .null, .val (.ref gr), .val (.int (4 : Int32)), .val (.int (0 : Int32)), .val (.int (1 : Int32))]) (st' := [(.int ((0 : Int32) + (1 : Int32))), (.int ((1 : Int32) + (1 : Int32))), (.ref b5)]) rfl ?_
      refine Goes.iastore A R7 K7 (i := 4) rfl (Or.inr zs6) (k := 2) (by decide) (Nat.le_of_ble_eq_true rfl) d1_66 (fun h14 K14 R14 => ?_)
      replace R14 : Rep Z a0 n0 h14 GB [(cg, true, .inl ("com/example/stillpoint/stillpoint/spec/CallGroups", (CGs .null (.ref b5) .null (.ref b1) .null .null .null))), (gr, true, .inr (.int, [(.int (1 : Int32)), (.int g1), (.int g2), (.int g3)])), (b1, true, .inl ("java/util/BitSet", (BSs (.ref wd) (.int (0 : Int32)) (.int (0 : Int32))))), (wd, true, .inr (.long, [(.long (0 : Int64))])), (b5, true, .inr (.int, [(.int (0 : Int32)), (.int (0 : Int32)), (.int ((0 : Int32) + (1 : Int32))), (.int (0 : Int32))]))] := R14
      exact J9 _ _ _ _ rfl rfl rfl K14 R14
    · skip
      refine Goes.if1 A d1_51 (by decide) (pc' := 67) (by decide) (fun hc => absurd hc (cP_f (by decide))) (fun hc15 => ?_)
      refine Goes.blk A _ b1_54_1 (pc' := 55) (Ls' := #[.val (.ref cg), .val (.ref gr), .val (.int (3 : Int32)), .val .null, .val (.ref gr), .val (.int (4 : Int32)), .val (.int (0 : Int32)), .val (.int (2 : Int32))]) (st' := [(.ref cg)]) rfl ?_
      refine Goes.getF A (hw _ (List.mem_of_getElem? (i := 34) rfl)) Via.refl (R7.fld (i := 0) (j := 1) rfl rfl) d1_55 ?_
      refine Goes.blk A _ b1_58_4 (pc' := 63) (Ls' := #[.val (.ref cg), .val (.ref gr), .val (.int (3 : Int32)), .val .null, .val (.ref gr), .val (.int (4 : Int32)), .val (.int (0 : Int32)), .val (.int (2 : Int32))]) (st' := [(.int ((2 : Int32) + (1 : Int32))), (.ref b5), (.int ((2 : Int32) + (1 : Int32))), (.ref b5)]) rfl ?_
      refine Goes.iaload A R7 (i := 4) rfl (k := 3) (by decide) rfl d1_63 ?_
      refine Goes.blk A _ b1_64_2 (pc' := 66) (Ls' := #[.val (.ref cg), .val (.ref gr), .val (.int (3 : Int32)), .val .null, .val (.ref gr), .val (.int (4 : Int32)), .val (.int (0 : Int32)), .val (.int (2 : Int32))]) (st' := [(.int ((0 : Int32) + (1 : Int32))), (.int ((2 : Int32) + (1 : Int32))), (.ref b5)]) rfl ?_
      refine Goes.iastore A R7 K7 (i := 4) rfl (Or.inr zs6) (k := 3) (by decide) (Nat.le_of_ble_eq_true rfl) d1_66 (fun h16 K16 R16 => ?_)
      replace R16 : Rep Z a0 n0 h16 GB [(cg, true, .inl ("com/example/stillpoint/stillpoint/spec/CallGroups", (CGs .null (.ref b5) .null (.ref b1) .null .null .null))), (gr, true, .inr (.int, [(.int (2 : Int32)), (.int g1), (.int g2), (.int g3)])), (b1, true, .inl ("java/util/BitSet", (BSs (.ref wd) (.int (0 : Int32)) (.int (0 : Int32))))), (wd, true, .inr (.long, [(.long (0 : Int64))])), (b5, true, .inr (.int, [(.int (0 : Int32)), (.int (0 : Int32)), (.int (0 : Int32)), (.int ((0 : Int32) + (1 : Int32)))]))] := R16
      exact J9 _ _ _ _ rfl rfl rfl K16 R16
  intro x0_0 x0_1 x0_2 h9 e9_0 e9_1 e9_2 K9 R9
  refine Goes.blk A _ b1_67_1 (pc' := 70) (Ls' := #[.val (.ref cg), .val (.ref gr), .val (.int (3 : Int32)), .val .null, .val (.ref gr), .val (.int (4 : Int32)), .val (.int ((0 : Int32) + (1 : Int32))), .val (.int g0)]) (st' := []) rfl ?_
  refine Goes.jump A d1_70 (by decide) (pc' := 35) (by decide) ?_
  refine Goes.blk A _ b1_35_2 (pc' := 39) (Ls' := #[.val (.ref cg), .val (.ref gr), .val (.int (3 : Int32)), .val .null, .val (.ref gr), .val (.int (4 : Int32)), .val (.int ((0 : Int32) + (1 : Int32))), .val (.int g0)]) (st' := [(.int (4 : Int32)), (.int ((0 : Int32) + (1 : Int32)))]) rfl ?_
  refine Goes.if2 A d1_39 (by decide) (pc' := 73) (by decide) (fun hc => absurd hc (cP_f (by decide))) (fun hc17 => ?_)
  refine Goes.blk A _ b1_42_2 (pc' := 46) (Ls' := #[.val (.ref cg), .val (.ref gr), .val (.int (3 : Int32)), .val .null, .val (.ref gr), .val (.int (4 : Int32)), .val (.int ((0 : Int32) + (1 : Int32))), .val (.int g0)]) (st' := [(.int ((0 : Int32) + (1 : Int32))), (.ref gr)]) rfl ?_
  refine Goes.iaload A R9 (i := 1) rfl (k := 1) (by decide) rfl d1_46 ?_
  refine Goes.blk A _ b1_47_2 (pc' := 51) (Ls' := #[.val (.ref cg), .val (.ref gr), .val (.int (3 : Int32)), .val .null, .val (.ref gr), .val (.int (4 : Int32)), .val (.int ((0 : Int32) + (1 : Int32))), .val (.int g1)]) (st' := [(.int g1)]) rfl ?_
  suffices J18 : ∀ (x1_0 x1_1 x1_2 : Int32) (h18 : Heap), x1_0 = bmp 0 x0_0 g1 → x1_1 = bmp 1 x0_1 g1 → x1_2 = bmp 2 x0_2 g1 → Keep h h18 [cg] → Rep Z a0 n0 h18 GB [(cg, true, .inl ("com/example/stillpoint/stillpoint/spec/CallGroups", (CGs .null (.ref b5) .null (.ref b1) .null .null .null))), (gr, true, .inr (.int, [(.int g0), (.int g1), (.int g2), (.int g3)])), (b1, true, .inl ("java/util/BitSet", (BSs (.ref wd) (.int (0 : Int32)) (.int (0 : Int32))))), (wd, true, .inr (.long, [(.long (0 : Int64))])), (b5, true, .inr (.int, [(.int (0 : Int32)), (.int x1_0), (.int x1_1), (.int x1_2)]))] → Goes p l e ({ frames := 3, cells := 6, slots := 19, locals := 49 } : Room) s m #[(.ref cg), (.ref gr), (.int (3 : Int32)), .null] below meth c n0 (fun v h' => ∃ bs wd st bg po fl u w f0 f1 f2, (u = 0 ∨ u = 1) ∧ v = none ∧ h.size ≤ bs ∧ h.size ≤ wd ∧ h.size ≤ st ∧ h.size ≤ bg ∧ h.size ≤ po ∧ h.size ≤ fl ∧ Keep h h' [cg] ∧ Rep Z a0 n0 h' GB [(cg, true, .inl ("com/example/stillpoint/stillpoint/spec/CallGroups", (CGs (.ref bg) (.ref st) (.ref po) (.ref bs) .null .null .null))), (gr, true, .inr (.int, [(.int g0), (.int g1), (.int g2), (.int g3)])), (bs, true, .inl ("java/util/BitSet", (BSs (.ref wd) (.int u) (.int (0 : Int32))))), (wd, true, .inr (.long, [(.long w)])), (st, true, .inr (.int, [(.int (0 : Int32)), (.int (T1 g0 g1 g2 g3)), (.int (T2 g0 g1 g2 g3)), (.int (T3 g0 g1 g2 g3))])), (bg, true, .inr (.int, (BGF g0 g1 g2 g3))), (po, true, .inr (.int, [(.int (P0 g0 g1 g2 g3)), (.int (P1 g0 g1 g2 g3)), (.int (P2 g0 g1 g2 g3)), (.int (P3 g0 g1 g2 g3))])), (fl, true, .inr (.int, [(.int f0), (.int f1), (.int f2)]))]) h18 3 8 67 #[.val (.ref cg), .val (.ref gr), .val (.int (3 : Int32)), .val .null, .val (.ref gr), .val (.int (4 : Int32)), .val (.int ((0 : Int32) + (1 : Int32))), .val (.int g1)] [] by
    rcases hg1 with rfl | rfl | rfl | rfl
    · skip
      refine Goes.if1 A d1_51 (by decide) (pc' := 67) (by decide) (fun hc19 => ?_) (fun hc => absurd (cP_t (by decide)) hc)
      exact J18 _ _ _ _ rfl rfl rfl K9 R9
    · skip
      refine Goes.if1 A d1_51 (by decide) (pc' := 67) (by decide) (fun hc => absurd hc (cP_f (by decide))) (fun hc20 => ?_)
      refine Goes.blk A _ b1_54_1 (pc' := 55) (Ls' := #[.val (.ref cg), .val (.ref gr), .val (.int (3 : Int32)), .val .null, .val (.ref gr), .val (.int (4 : Int32)), .val (.int ((0 : Int32) + (1 : Int32))), .val (.int (0 : Int32))]) (st' := [(.ref cg)]) rfl ?_
      refine Goes.getF A (hw _ (List.mem_of_getElem? (i := 34) rfl)) Via.refl (R9.fld (i := 0) (j := 1) rfl rfl) d1_55 ?_
      refine Goes.blk A _ b1_58_4 (pc' := 63) (Ls' := #[.val (.ref cg), .val (.ref gr), .val (.int (3 : Int32)), .val .null, .val (.ref gr), .val (.int (4 : Int32)), .val (.int ((0 : Int32) + (1 : Int32))), .val (.int (0 : Int32))]) (st' := [(.int ((0 : Int32) + (1 : Int32))), (.ref b5), (.int ((0 : Int32) + (1 : Int32))), (.ref b5)]) rfl ?_
      refine Goes.iaload A R9 (i := 4) rfl (k := 1) (by decide) rfl d1_63 ?_
      refine Goes.blk A _ b1_64_2 (pc' := 66) (Ls' := #[.val (.ref cg), .val (.ref gr), .val (.int (3 : Int32)), .val .null, .val (.ref gr), .val (.int (4 : Int32)), .val (.int ((0 : Int32) + (1 : Int32))), .val (.int (0 : Int32))]) (st' := [(.int (x0_0 + (1 : Int32))), (.int ((0 : Int32) + (1 : Int32))), (.ref b5)]) rfl ?_
      refine Goes.iastore A R9 K9 (i := 4) rfl (Or.inr zs6) (k := 1) (by decide) (Nat.le_of_ble_eq_true rfl) d1_66 (fun h21 K21 R21 => ?_)
      replace R21 : Rep Z a0 n0 h21 GB [(cg, true, .inl ("com/example/stillpoint/stillpoint/spec/CallGroups", (CGs .null (.ref b5) .null (.ref b1) .null .null .null))), (gr, true, .inr (.int, [(.int g0), (.int (0 : Int32)), (.int g2), (.int g3)])), (b1, true, .inl ("java/util/BitSet", (BSs (.ref wd) (.int (0 : Int32)) (.int (0 : Int32))))), (wd, true, .inr (.long, [(.long (0 : Int64))])), (b5, true, .inr (.int, [(.int (0 : Int32)), (.int (x0_0 + (1 : Int32))), (.int x0_1), (.int x0_2)]))] := R21
      exact J18 _ _ _ _ rfl rfl rfl K21 R21
    · skip
      refine Goes.if1 A d1_51 (by decide) (pc' := 67) (by decide) (fun hc => absurd hc (cP_f (by decide))) (fun hc22 => ?_)
      refine Goes.blk A _ b1_54_1 (pc' := 55) (Ls' := #[.val (.ref cg), .val (.ref gr), .val (.int (3 : Int32)), .val .null, .val (.ref gr), .val (.int (4 : Int32)), .val (.int ((0 : Int32) + (1 : Int32))), .val (.int (1 : Int32))]) (st' := [(.ref cg)]) rfl ?_
      refine Goes.getF A (hw _ (List.mem_of_getElem? (i := 34) rfl)) Via.refl (R9.fld (i := 0) (j := 1) rfl rfl) d1_55 ?_
      refine Goes.blk A _ b1_58_4 (pc' := 63) (Ls' := #[.val (.ref cg), .val (.ref gr), .val (.int (3 : Int32)), .val .null, .val (.ref gr), .val (.int (4 : Int32)), .val (.int ((0 : Int32) + (1 : Int32))), .val (.int (1 : Int32))]) (st' := [(.int ((1 : Int32) + (1 : Int32))), (.ref b5), (.int ((1 : Int32) + (1 : Int32))), (.ref b5)]) rfl ?_
      refine Goes.iaload A R9 (i := 4) rfl (k := 2) (by decide) rfl d1_63 ?_
      refine Goes.blk A _ b1_64_2 (pc' := 66) (Ls' := #[.val (.ref cg), .val (.ref gr), .val (.int (3 : Int32)), .val .null, .val (.ref gr), .val (.int (4 : Int32)), .val (.int ((0 : Int32) + (1 : Int32))), .val (.int (1 : Int32))]) (st' := [(.int (x0_1 + (1 : Int32))), (.int ((1 : Int32) + (1 : Int32))), (.ref b5)]) rfl ?_
      refine Goes.iastore A R9 K9 (i := 4) rfl (Or.inr zs6) (k := 2) (by decide) (Nat.le_of_ble_eq_true rfl) d1_66 (fun h23 K23 R23 => ?_)
      replace R23 : Rep Z a0 n0 h23 GB [(cg, true, .inl ("com/example/stillpoint/stillpoint/spec/CallGroups", (CGs .null (.ref b5) .null (.ref b1) .null .null .null))), (gr, true, .inr (.int, [(.int g0), (.int (1 : Int32)), (.int g2), (.int g3)])), (b1, true, .inl ("java/util/BitSet", (BSs (.ref wd) (.int (0 : Int32)) (.int (0 : Int32))))), (wd, true, .inr (.long, [(.long (0 : Int64))])), (b5, true, .inr (.int, [(.int (0 : Int32)), (.int x0_0), (.int (x0_1 + (1 : Int32))), (.int x0_2)]))] := R23
      exact J18 _ _ _ _ rfl rfl rfl K23 R23
    · skip
      refine Goes.if1 A d1_51 (by decide) (pc' := 67) (by decide) (fun hc => absurd hc (cP_f (by decide))) (fun hc24 => ?_)
      refine Goes.blk A _ b1_54_1 (pc' := 55) (Ls' := #[.val (.ref cg), .val (.ref gr), .val (.int (3 : Int32)), .val .null, .val (.ref gr), .val (.int (4 : Int32)), .val (.int ((0 : Int32) + (1 : Int32))), .val (.int (2 : Int32))]) (st' := [(.ref cg)]) rfl ?_
      refine Goes.getF A (hw _ (List.mem_of_getElem? (i := 34) rfl)) Via.refl (R9.fld (i := 0) (j := 1) rfl rfl) d1_55 ?_
      refine Goes.blk A _ b1_58_4 (pc' := 63) (Ls' := #[.val (.ref cg), .val (.ref gr), .val (.int (3 : Int32)), .val .null, .val (.ref gr), .val (.int (4 : Int32)), .val (.int ((0 : Int32) + (1 : Int32))), .val (.int (2 : Int32))]) (st' := [(.int ((2 : Int32) + (1 : Int32))), (.ref b5), (.int ((2 : Int32) + (1 : Int32))), (.ref b5)]) rfl ?_
      refine Goes.iaload A R9 (i := 4) rfl (k := 3) (by decide) rfl d1_63 ?_
      refine Goes.blk A _ b1_64_2 (pc' := 66) (Ls' := #[.val (.ref cg), .val (.ref gr), .val (.int (3 : Int32)), .val .null, .val (.ref gr), .val (.int (4 : Int32)), .val (.int ((0 : Int32) + (1 : Int32))), .val (.int (2 : Int32))]) (st' := [(.int (x0_2 + (1 : Int32))), (.int ((2 : Int32) + (1 : Int32))), (.ref b5)]) rfl ?_
      refine Goes.iastore A R9 K9 (i := 4) rfl (Or.inr zs6) (k := 3) (by decide) (Nat.le_of_ble_eq_true rfl) d1_66 (fun h25 K25 R25 => ?_)
      replace R25 : Rep Z a0 n0 h25 GB [(cg, true, .inl ("com/example/stillpoint/stillpoint/spec/CallGroups", (CGs .null (.ref b5) .null (.ref b1) .null .null .null))), (gr, true, .inr (.int, [(.int g0), (.int (2 : Int32)), (.int g2), (.int g3)])), (b1, true, .inl ("java/util/BitSet", (BSs (.ref wd) (.int (0 : Int32)) (.int (0 : Int32))))), (wd, true, .inr (.long, [(.long (0 : Int64))])), (b5, true, .inr (.int, [(.int (0 : Int32)), (.int x0_0), (.int x0_1), (.int (x0_2 + (1 : Int32)))]))] := R25
      exact J18 _ _ _ _ rfl rfl rfl K25 R25
  intro x1_0 x1_1 x1_2 h18 e18_0 e18_1 e18_2 K18 R18
  refine Goes.blk A _ b1_67_1 (pc' := 70) (Ls' := #[.val (.ref cg), .val (.ref gr), .val (.int (3 : Int32)), .val .null, .val (.ref gr), .val (.int (4 : Int32)), .val (.int (((0 : Int32) + (1 : Int32)) + (1 : Int32))), .val (.int g1)]) (st' := []) rfl ?_
  refine Goes.jump A d1_70 (by decide) (pc' := 35) (by decide) ?_
  refine Goes.blk A _ b1_35_2 (pc' := 39) (Ls' := #[.val (.ref cg), .val (.ref gr), .val (.int (3 : Int32)), .val .null, .val (.ref gr), .val (.int (4 : Int32)), .val (.int (((0 : Int32) + (1 : Int32)) + (1 : Int32))), .val (.int g1)]) (st' := [(.int (4 : Int32)), (.int (((0 : Int32) + (1 : Int32)) + (1 : Int32)))]) rfl ?_
  refine Goes.if2 A d1_39 (by decide) (pc' := 73) (by decide) (fun hc => absurd hc (cP_f (by decide))) (fun hc26 => ?_)
  refine Goes.blk A _ b1_42_2 (pc' := 46) (Ls' := #[.val (.ref cg), .val (.ref gr), .val (.int (3 : Int32)), .val .null, .val (.ref gr), .val (.int (4 : Int32)), .val (.int (((0 : Int32) + (1 : Int32)) + (1 : Int32))), .val (.int g1)]) (st' := [(.int (((0 : Int32) + (1 : Int32)) + (1 : Int32))), (.ref gr)]) rfl ?_
  refine Goes.iaload A R18 (i := 1) rfl (k := 2) (by decide) rfl d1_46 ?_
  refine Goes.blk A _ b1_47_2 (pc' := 51) (Ls' := #[.val (.ref cg), .val (.ref gr), .val (.int (3 : Int32)), .val .null, .val (.ref gr), .val (.int (4 : Int32)), .val (.int (((0 : Int32) + (1 : Int32)) + (1 : Int32))), .val (.int g2)]) (st' := [(.int g2)]) rfl ?_
  suffices J27 : ∀ (x2_0 x2_1 x2_2 : Int32) (h27 : Heap), x2_0 = bmp 0 x1_0 g2 → x2_1 = bmp 1 x1_1 g2 → x2_2 = bmp 2 x1_2 g2 → Keep h h27 [cg] → Rep Z a0 n0 h27 GB [(cg, true, .inl ("com/example/stillpoint/stillpoint/spec/CallGroups", (CGs .null (.ref b5) .null (.ref b1) .null .null .null))), (gr, true, .inr (.int, [(.int g0), (.int g1), (.int g2), (.int g3)])), (b1, true, .inl ("java/util/BitSet", (BSs (.ref wd) (.int (0 : Int32)) (.int (0 : Int32))))), (wd, true, .inr (.long, [(.long (0 : Int64))])), (b5, true, .inr (.int, [(.int (0 : Int32)), (.int x2_0), (.int x2_1), (.int x2_2)]))] → Goes p l e ({ frames := 3, cells := 6, slots := 19, locals := 49 } : Room) s m #[(.ref cg), (.ref gr), (.int (3 : Int32)), .null] below meth c n0 (fun v h' => ∃ bs wd st bg po fl u w f0 f1 f2, (u = 0 ∨ u = 1) ∧ v = none ∧ h.size ≤ bs ∧ h.size ≤ wd ∧ h.size ≤ st ∧ h.size ≤ bg ∧ h.size ≤ po ∧ h.size ≤ fl ∧ Keep h h' [cg] ∧ Rep Z a0 n0 h' GB [(cg, true, .inl ("com/example/stillpoint/stillpoint/spec/CallGroups", (CGs (.ref bg) (.ref st) (.ref po) (.ref bs) .null .null .null))), (gr, true, .inr (.int, [(.int g0), (.int g1), (.int g2), (.int g3)])), (bs, true, .inl ("java/util/BitSet", (BSs (.ref wd) (.int u) (.int (0 : Int32))))), (wd, true, .inr (.long, [(.long w)])), (st, true, .inr (.int, [(.int (0 : Int32)), (.int (T1 g0 g1 g2 g3)), (.int (T2 g0 g1 g2 g3)), (.int (T3 g0 g1 g2 g3))])), (bg, true, .inr (.int, (BGF g0 g1 g2 g3))), (po, true, .inr (.int, [(.int (P0 g0 g1 g2 g3)), (.int (P1 g0 g1 g2 g3)), (.int (P2 g0 g1 g2 g3)), (.int (P3 g0 g1 g2 g3))])), (fl, true, .inr (.int, [(.int f0), (.int f1), (.int f2)]))]) h27 3 8 67 #[.val (.ref cg), .val (.ref gr), .val (.int (3 : Int32)), .val .null, .val (.ref gr), .val (.int (4 : Int32)), .val (.int (((0 : Int32) + (1 : Int32)) + (1 : Int32))), .val (.int g2)] [] by
    rcases hg2 with rfl | rfl | rfl | rfl
    · skip
      refine Goes.if1 A d1_51 (by decide) (pc' := 67) (by decide) (fun hc28 => ?_) (fun hc => absurd (cP_t (by decide)) hc)
      exact J27 _ _ _ _ rfl rfl rfl K18 R18
    · skip
      refine Goes.if1 A d1_51 (by decide) (pc' := 67) (by decide) (fun hc => absurd hc (cP_f (by decide))) (fun hc29 => ?_)
      refine Goes.blk A _ b1_54_1 (pc' := 55) (Ls' := #[.val (.ref cg), .val (.ref gr), .val (.int (3 : Int32)), .val .null, .val (.ref gr), .val (.int (4 : Int32)), .val (.int (((0 : Int32) + (1 : Int32)) + (1 : Int32))), .val (.int (0 : Int32))]) (st' := [(.ref cg)]) rfl ?_
      refine Goes.getF A (hw _ (List.mem_of_getElem? (i := 34) rfl)) Via.refl (R18.fld (i := 0) (j := 1) rfl rfl) d1_55 ?_
      refine Goes.blk A _ b1_58_4 (pc' := 63) (Ls' := #[.val (.ref cg), .val (.ref gr), .val (.int (3 : Int32)), .val .null, .val (.ref gr), .val (.int (4 : Int32)), .val (.int (((0 : Int32) + (1 : Int32)) + (1 : Int32))), .val (.int (0 : Int32))]) (st' := [(.int ((0 : Int32) + (1 : Int32))), (.ref b5), (.int ((0 : Int32) + (1 : Int32))), (.ref b5)]) rfl ?_
      refine Goes.iaload A R18 (i := 4) rfl (k := 1) (by decide) rfl d1_63 ?_
      refine Goes.blk A _ b1_64_2 (pc' := 66) (Ls' := #[.val (.ref cg), .val (.ref gr), .val (.int (3 : Int32)), .val .null, .val (.ref gr), .val (.int (4 : Int32)), .val (.int (((0 : Int32) + (1 : Int32)) + (1 : Int32))), .val (.int (0 : Int32))]) (st' := [(.int (x1_0 + (1 : Int32))), (.int ((0 : Int32) + (1 : Int32))), (.ref b5)]) rfl ?_
      refine Goes.iastore A R18 K18 (i := 4) rfl (Or.inr zs6) (k := 1) (by decide) (Nat.le_of_ble_eq_true rfl) d1_66 (fun h30 K30 R30 => ?_)
      replace R30 : Rep Z a0 n0 h30 GB [(cg, true, .inl ("com/example/stillpoint/stillpoint/spec/CallGroups", (CGs .null (.ref b5) .null (.ref b1) .null .null .null))), (gr, true, .inr (.int, [(.int g0), (.int g1), (.int (0 : Int32)), (.int g3)])), (b1, true, .inl ("java/util/BitSet", (BSs (.ref wd) (.int (0 : Int32)) (.int (0 : Int32))))), (wd, true, .inr (.long, [(.long (0 : Int64))])), (b5, true, .inr (.int, [(.int (0 : Int32)), (.int (x1_0 + (1 : Int32))), (.int x1_1), (.int x1_2)]))] := R30
      exact J27 _ _ _ _ rfl rfl rfl K30 R30
    · skip
      refine Goes.if1 A d1_51 (by decide) (pc' := 67) (by decide) (fun hc => absurd hc (cP_f (by decide))) (fun hc31 => ?_)
      refine Goes.blk A _ b1_54_1 (pc' := 55) (Ls' := #[.val (.ref cg), .val (.ref gr), .val (.int (3 : Int32)), .val .null, .val (.ref gr), .val (.int (4 : Int32)), .val (.int (((0 : Int32) + (1 : Int32)) + (1 : Int32))), .val (.int (1 : Int32))]) (st' := [(.ref cg)]) rfl ?_
      refine Goes.getF A (hw _ (List.mem_of_getElem? (i := 34) rfl)) Via.refl (R18.fld (i := 0) (j := 1) rfl rfl) d1_55 ?_
      refine Goes.blk A _ b1_58_4 (pc' := 63) (Ls' := #[.val (.ref cg), .val (.ref gr), .val (.int (3 : Int32)), .val .null, .val (.ref gr), .val (.int (4 : Int32)), .val (.int (((0 : Int32) + (1 : Int32)) + (1 : Int32))), .val (.int (1 : Int32))]) (st' := [(.int ((1 : Int32) + (1 : Int32))), (.ref b5), (.int ((1 : Int32) + (1 : Int32))), (.ref b5)]) rfl ?_
      refine Goes.iaload A R18 (i := 4) rfl (k := 2) (by decide) rfl d1_63 ?_
      refine Goes.blk A _ b1_64_2 (pc' := 66) (Ls' := #[.val (.ref cg), .val (.ref gr), .val (.int (3 : Int32)), .val .null, .val (.ref gr), .val (.int (4 : Int32)), .val (.int (((0 : Int32) + (1 : Int32)) + (1 : Int32))), .val (.int (1 : Int32))]) (st' := [(.int (x1_1 + (1 : Int32))), (.int ((1 : Int32) + (1 : Int32))), (.ref b5)]) rfl ?_
      refine Goes.iastore A R18 K18 (i := 4) rfl (Or.inr zs6) (k := 2) (by decide) (Nat.le_of_ble_eq_true rfl) d1_66 (fun h32 K32 R32 => ?_)
      replace R32 : Rep Z a0 n0 h32 GB [(cg, true, .inl ("com/example/stillpoint/stillpoint/spec/CallGroups", (CGs .null (.ref b5) .null (.ref b1) .null .null .null))), (gr, true, .inr (.int, [(.int g0), (.int g1), (.int (1 : Int32)), (.int g3)])), (b1, true, .inl ("java/util/BitSet", (BSs (.ref wd) (.int (0 : Int32)) (.int (0 : Int32))))), (wd, true, .inr (.long, [(.long (0 : Int64))])), (b5, true, .inr (.int, [(.int (0 : Int32)), (.int x1_0), (.int (x1_1 + (1 : Int32))), (.int x1_2)]))] := R32
      exact J27 _ _ _ _ rfl rfl rfl K32 R32
    · skip
      refine Goes.if1 A d1_51 (by decide) (pc' := 67) (by decide) (fun hc => absurd hc (cP_f (by decide))) (fun hc33 => ?_)
      refine Goes.blk A _ b1_54_1 (pc' := 55) (Ls' := #[.val (.ref cg), .val (.ref gr), .val (.int (3 : Int32)), .val .null, .val (.ref gr), .val (.int (4 : Int32)), .val (.int (((0 : Int32) + (1 : Int32)) + (1 : Int32))), .val (.int (2 : Int32))]) (st' := [(.ref cg)]) rfl ?_
      refine Goes.getF A (hw _ (List.mem_of_getElem? (i := 34) rfl)) Via.refl (R18.fld (i := 0) (j := 1) rfl rfl) d1_55 ?_
      refine Goes.blk A _ b1_58_4 (pc' := 63) (Ls' := #[.val (.ref cg), .val (.ref gr), .val (.int (3 : Int32)), .val .null, .val (.ref gr), .val (.int (4 : Int32)), .val (.int (((0 : Int32) + (1 : Int32)) + (1 : Int32))), .val (.int (2 : Int32))]) (st' := [(.int ((2 : Int32) + (1 : Int32))), (.ref b5), (.int ((2 : Int32) + (1 : Int32))), (.ref b5)]) rfl ?_
      refine Goes.iaload A R18 (i := 4) rfl (k := 3) (by decide) rfl d1_63 ?_
      refine Goes.blk A _ b1_64_2 (pc' := 66) (Ls' := #[.val (.ref cg), .val (.ref gr), .val (.int (3 : Int32)), .val .null, .val (.ref gr), .val (.int (4 : Int32)), .val (.int (((0 : Int32) + (1 : Int32)) + (1 : Int32))), .val (.int (2 : Int32))]) (st' := [(.int (x1_2 + (1 : Int32))), (.int ((2 : Int32) + (1 : Int32))), (.ref b5)]) rfl ?_
      refine Goes.iastore A R18 K18 (i := 4) rfl (Or.inr zs6) (k := 3) (by decide) (Nat.le_of_ble_eq_true rfl) d1_66 (fun h34 K34 R34 => ?_)
      replace R34 : Rep Z a0 n0 h34 GB [(cg, true, .inl ("com/example/stillpoint/stillpoint/spec/CallGroups", (CGs .null (.ref b5) .null (.ref b1) .null .null .null))), (gr, true, .inr (.int, [(.int g0), (.int g1), (.int (2 : Int32)), (.int g3)])), (b1, true, .inl ("java/util/BitSet", (BSs (.ref wd) (.int (0 : Int32)) (.int (0 : Int32))))), (wd, true, .inr (.long, [(.long (0 : Int64))])), (b5, true, .inr (.int, [(.int (0 : Int32)), (.int x1_0), (.int x1_1), (.int (x1_2 + (1 : Int32)))]))] := R34
      exact J27 _ _ _ _ rfl rfl rfl K34 R34
  intro x2_0 x2_1 x2_2 h27 e27_0 e27_1 e27_2 K27 R27
  refine Goes.blk A _ b1_67_1 (pc' := 70) (Ls' := #[.val (.ref cg), .val (.ref gr), .val (.int (3 : Int32)), .val .null, .val (.ref gr), .val (.int (4 : Int32)), .val (.int ((((0 : Int32) + (1 : Int32)) + (1 : Int32)) + (1 : Int32))), .val (.int g2)]) (st' := []) rfl ?_
  refine Goes.jump A d1_70 (by decide) (pc' := 35) (by decide) ?_
  refine Goes.blk A _ b1_35_2 (pc' := 39) (Ls' := #[.val (.ref cg), .val (.ref gr), .val (.int (3 : Int32)), .val .null, .val (.ref gr), .val (.int (4 : Int32)), .val (.int ((((0 : Int32) + (1 : Int32)) + (1 : Int32)) + (1 : Int32))), .val (.int g2)]) (st' := [(.int (4 : Int32)), (.int ((((0 : Int32) + (1 : Int32)) + (1 : Int32)) + (1 : Int32)))]) rfl ?_
  refine Goes.if2 A d1_39 (by decide) (pc' := 73) (by decide) (fun hc => absurd hc (cP_f (by decide))) (fun hc35 => ?_)
  refine Goes.blk A _ b1_42_2 (pc' := 46) (Ls' := #[.val (.ref cg), .val (.ref gr), .val (.int (3 : Int32)), .val .null, .val (.ref gr), .val (.int (4 : Int32)), .val (.int ((((0 : Int32) + (1 : Int32)) + (1 : Int32)) + (1 : Int32))), .val (.int g2)]) (st' := [(.int ((((0 : Int32) + (1 : Int32)) + (1 : Int32)) + (1 : Int32))), (.ref gr)]) rfl ?_
  refine Goes.iaload A R27 (i := 1) rfl (k := 3) (by decide) rfl d1_46 ?_
  refine Goes.blk A _ b1_47_2 (pc' := 51) (Ls' := #[.val (.ref cg), .val (.ref gr), .val (.int (3 : Int32)), .val .null, .val (.ref gr), .val (.int (4 : Int32)), .val (.int ((((0 : Int32) + (1 : Int32)) + (1 : Int32)) + (1 : Int32))), .val (.int g3)]) (st' := [(.int g3)]) rfl ?_
  suffices J36 : ∀ (x3_0 x3_1 x3_2 : Int32) (h36 : Heap), x3_0 = bmp 0 x2_0 g3 → x3_1 = bmp 1 x2_1 g3 → x3_2 = bmp 2 x2_2 g3 → Keep h h36 [cg] → Rep Z a0 n0 h36 GB [(cg, true, .inl ("com/example/stillpoint/stillpoint/spec/CallGroups", (CGs .null (.ref b5) .null (.ref b1) .null .null .null))), (gr, true, .inr (.int, [(.int g0), (.int g1), (.int g2), (.int g3)])), (b1, true, .inl ("java/util/BitSet", (BSs (.ref wd) (.int (0 : Int32)) (.int (0 : Int32))))), (wd, true, .inr (.long, [(.long (0 : Int64))])), (b5, true, .inr (.int, [(.int (0 : Int32)), (.int x3_0), (.int x3_1), (.int x3_2)]))] → Goes p l e ({ frames := 3, cells := 6, slots := 19, locals := 49 } : Room) s m #[(.ref cg), (.ref gr), (.int (3 : Int32)), .null] below meth c n0 (fun v h' => ∃ bs wd st bg po fl u w f0 f1 f2, (u = 0 ∨ u = 1) ∧ v = none ∧ h.size ≤ bs ∧ h.size ≤ wd ∧ h.size ≤ st ∧ h.size ≤ bg ∧ h.size ≤ po ∧ h.size ≤ fl ∧ Keep h h' [cg] ∧ Rep Z a0 n0 h' GB [(cg, true, .inl ("com/example/stillpoint/stillpoint/spec/CallGroups", (CGs (.ref bg) (.ref st) (.ref po) (.ref bs) .null .null .null))), (gr, true, .inr (.int, [(.int g0), (.int g1), (.int g2), (.int g3)])), (bs, true, .inl ("java/util/BitSet", (BSs (.ref wd) (.int u) (.int (0 : Int32))))), (wd, true, .inr (.long, [(.long w)])), (st, true, .inr (.int, [(.int (0 : Int32)), (.int (T1 g0 g1 g2 g3)), (.int (T2 g0 g1 g2 g3)), (.int (T3 g0 g1 g2 g3))])), (bg, true, .inr (.int, (BGF g0 g1 g2 g3))), (po, true, .inr (.int, [(.int (P0 g0 g1 g2 g3)), (.int (P1 g0 g1 g2 g3)), (.int (P2 g0 g1 g2 g3)), (.int (P3 g0 g1 g2 g3))])), (fl, true, .inr (.int, [(.int f0), (.int f1), (.int f2)]))]) h36 3 8 67 #[.val (.ref cg), .val (.ref gr), .val (.int (3 : Int32)), .val .null, .val (.ref gr), .val (.int (4 : Int32)), .val (.int ((((0 : Int32) + (1 : Int32)) + (1 : Int32)) + (1 : Int32))), .val (.int g3)] [] by
    rcases hg3 with rfl | rfl | rfl | rfl
    · skip
      refine Goes.if1 A d1_51 (by decide) (pc' := 67) (by decide) (fun hc37 => ?_) (fun hc => absurd (cP_t (by decide)) hc)
      exact J36 _ _ _ _ rfl rfl rfl K27 R27
    · skip
      refine Goes.if1 A d1_51 (by decide) (pc' := 67) (by decide) (fun hc => absurd hc (cP_f (by decide))) (fun hc38 => ?_)
      refine Goes.blk A _ b1_54_1 (pc' := 55) (Ls' := #[.val (.ref cg), .val (.ref gr), .val (.int (3 : Int32)), .val .null, .val (.ref gr), .val (.int (4 : Int32)), .val (.int ((((0 : Int32) + (1 : Int32)) + (1 : Int32)) + (1 : Int32))), .val (.int (0 : Int32))]) (st' := [(.ref cg)]) rfl ?_
      refine Goes.getF A (hw _ (List.mem_of_getElem? (i := 34) rfl)) Via.refl (R27.fld (i := 0) (j := 1) rfl rfl) d1_55 ?_
      refine Goes.blk A _ b1_58_4 (pc' := 63) (Ls' := #[.val (.ref cg), .val (.ref gr), .val (.int (3 : Int32)), .val .null, .val (.ref gr), .val (.int (4 : Int32)), .val (.int ((((0 : Int32) + (1 : Int32)) + (1 : Int32)) + (1 : Int32))), .val (.int (0 : Int32))]) (st' := [(.int ((0 : Int32) + (1 : Int32))), (.ref b5), (.int ((0 : Int32) + (1 : Int32))), (.ref b5)]) rfl ?_
      refine Goes.iaload A R27 (i := 4) rfl (k := 1) (by decide) rfl d1_63 ?_
      refine Goes.blk A _ b1_64_2 (pc' := 66) (Ls' := #[.val (.ref cg), .val (.ref gr), .val (.int (3 : Int32)), .val .null, .val (.ref gr), .val (.int (4 : Int32)), .val (.int ((((0 : Int32) + (1 : Int32)) + (1 : Int32)) + (1 : Int32))), .val (.int (0 : Int32))]) (st' := [(.int (x2_0 + (1 : Int32))), (.int ((0 : Int32) + (1 : Int32))), (.ref b5)]) rfl ?_
      refine Goes.iastore A R27 K27 (i := 4) rfl (Or.inr zs6) (k := 1) (by decide) (Nat.le_of_ble_eq_true rfl) d1_66 (fun h39 K39 R39 => ?_)
      replace R39 : Rep Z a0 n0 h39 GB [(cg, true, .inl ("com/example/stillpoint/stillpoint/spec/CallGroups", (CGs .null (.ref b5) .null (.ref b1) .null .null .null))), (gr, true, .inr (.int, [(.int g0), (.int g1), (.int g2), (.int (0 : Int32))])), (b1, true, .inl ("java/util/BitSet", (BSs (.ref wd) (.int (0 : Int32)) (.int (0 : Int32))))), (wd, true, .inr (.long, [(.long (0 : Int64))])), (b5, true, .inr (.int, [(.int (0 : Int32)), (.int (x2_0 + (1 : Int32))), (.int x2_1), (.int x2_2)]))] := R39
      exact J36 _ _ _ _ rfl rfl rfl K39 R39
    · skip
      refine Goes.if1 A d1_51 (by decide) (pc' := 67) (by decide) (fun hc => absurd hc (cP_f (by decide))) (fun hc40 => ?_)
      refine Goes.blk A _ b1_54_1 (pc' := 55) (Ls' := #[.val (.ref cg), .val (.ref gr), .val (.int (3 : Int32)), .val .null, .val (.ref gr), .val (.int (4 : Int32)), .val (.int ((((0 : Int32) + (1 : Int32)) + (1 : Int32)) + (1 : Int32))), .val (.int (1 : Int32))]) (st' := [(.ref cg)]) rfl ?_
      refine Goes.getF A (hw _ (List.mem_of_getElem? (i := 34) rfl)) Via.refl (R27.fld (i := 0) (j := 1) rfl rfl) d1_55 ?_
      refine Goes.blk A _ b1_58_4 (pc' := 63) (Ls' := #[.val (.ref cg), .val (.ref gr), .val (.int (3 : Int32)), .val .null, .val (.ref gr), .val (.int (4 : Int32)), .val (.int ((((0 : Int32) + (1 : Int32)) + (1 : Int32)) + (1 : Int32))), .val (.int (1 : Int32))]) (st' := [(.int ((1 : Int32) + (1 : Int32))), (.ref b5), (.int ((1 : Int32) + (1 : Int32))), (.ref b5)]) rfl ?_
      refine Goes.iaload A R27 (i := 4) rfl (k := 2) (by decide) rfl d1_63 ?_
      refine Goes.blk A _ b1_64_2 (pc' := 66) (Ls' := #[.val (.ref cg), .val (.ref gr), .val (.int (3 : Int32)), .val .null, .val (.ref gr), .val (.int (4 : Int32)), .val (.int ((((0 : Int32) + (1 : Int32)) + (1 : Int32)) + (1 : Int32))), .val (.int (1 : Int32))]) (st' := [(.int (x2_1 + (1 : Int32))), (.int ((1 : Int32) + (1 : Int32))), (.ref b5)]) rfl ?_
      refine Goes.iastore A R27 K27 (i := 4) rfl (Or.inr zs6) (k := 2) (by decide) (Nat.le_of_ble_eq_true rfl) d1_66 (fun h41 K41 R41 => ?_)
      replace R41 : Rep Z a0 n0 h41 GB [(cg, true, .inl ("com/example/stillpoint/stillpoint/spec/CallGroups", (CGs .null (.ref b5) .null (.ref b1) .null .null .null))), (gr, true, .inr (.int, [(.int g0), (.int g1), (.int g2), (.int (1 : Int32))])), (b1, true, .inl ("java/util/BitSet", (BSs (.ref wd) (.int (0 : Int32)) (.int (0 : Int32))))), (wd, true, .inr (.long, [(.long (0 : Int64))])), (b5, true, .inr (.int, [(.int (0 : Int32)), (.int x2_0), (.int (x2_1 + (1 : Int32))), (.int x2_2)]))] := R41
      exact J36 _ _ _ _ rfl rfl rfl K41 R41
    · skip
      refine Goes.if1 A d1_51 (by decide) (pc' := 67) (by decide) (fun hc => absurd hc (cP_f (by decide))) (fun hc42 => ?_)
      refine Goes.blk A _ b1_54_1 (pc' := 55) (Ls' := #[.val (.ref cg), .val (.ref gr), .val (.int (3 : Int32)), .val .null, .val (.ref gr), .val (.int (4 : Int32)), .val (.int ((((0 : Int32) + (1 : Int32)) + (1 : Int32)) + (1 : Int32))), .val (.int (2 : Int32))]) (st' := [(.ref cg)]) rfl ?_
      refine Goes.getF A (hw _ (List.mem_of_getElem? (i := 34) rfl)) Via.refl (R27.fld (i := 0) (j := 1) rfl rfl) d1_55 ?_
      refine Goes.blk A _ b1_58_4 (pc' := 63) (Ls' := #[.val (.ref cg), .val (.ref gr), .val (.int (3 : Int32)), .val .null, .val (.ref gr), .val (.int (4 : Int32)), .val (.int ((((0 : Int32) + (1 : Int32)) + (1 : Int32)) + (1 : Int32))), .val (.int (2 : Int32))]) (st' := [(.int ((2 : Int32) + (1 : Int32))), (.ref b5), (.int ((2 : Int32) + (1 : Int32))), (.ref b5)]) rfl ?_
      refine Goes.iaload A R27 (i := 4) rfl (k := 3) (by decide) rfl d1_63 ?_
      refine Goes.blk A _ b1_64_2 (pc' := 66) (Ls' := #[.val (.ref cg), .val (.ref gr), .val (.int (3 : Int32)), .val .null, .val (.ref gr), .val (.int (4 : Int32)), .val (.int ((((0 : Int32) + (1 : Int32)) + (1 : Int32)) + (1 : Int32))), .val (.int (2 : Int32))]) (st' := [(.int (x2_2 + (1 : Int32))), (.int ((2 : Int32) + (1 : Int32))), (.ref b5)]) rfl ?_
      refine Goes.iastore A R27 K27 (i := 4) rfl (Or.inr zs6) (k := 3) (by decide) (Nat.le_of_ble_eq_true rfl) d1_66 (fun h43 K43 R43 => ?_)
      replace R43 : Rep Z a0 n0 h43 GB [(cg, true, .inl ("com/example/stillpoint/stillpoint/spec/CallGroups", (CGs .null (.ref b5) .null (.ref b1) .null .null .null))), (gr, true, .inr (.int, [(.int g0), (.int g1), (.int g2), (.int (2 : Int32))])), (b1, true, .inl ("java/util/BitSet", (BSs (.ref wd) (.int (0 : Int32)) (.int (0 : Int32))))), (wd, true, .inr (.long, [(.long (0 : Int64))])), (b5, true, .inr (.int, [(.int (0 : Int32)), (.int x2_0), (.int x2_1), (.int (x2_2 + (1 : Int32)))]))] := R43
      exact J36 _ _ _ _ rfl rfl rfl K43 R43
  intro x3_0 x3_1 x3_2 h36 e36_0 e36_1 e36_2 K36 R36
  refine Goes.blk A _ b1_67_1 (pc' := 70) (Ls' := #[.val (.ref cg), .val (.ref gr), .val (.int (3 : Int32)), .val .null, .val (.ref gr), .val (.int (4 : Int32)), .val (.int (((((0 : Int32) + (1 : Int32)) + (1 : Int32)) + (1 : Int32)) + (1 : Int32))), .val (.int g3)]) (st' := []) rfl ?_
  refine Goes.jump A d1_70 (by decide) (pc' := 35) (by decide) ?_
  refine Goes.blk A _ b1_35_2 (pc' := 39) (Ls' := #[.val (.ref cg), .val (.ref gr), .val (.int (3 : Int32)), .val .null, .val (.ref gr), .val (.int (4 : Int32)), .val (.int (((((0 : Int32) + (1 : Int32)) + (1 : Int32)) + (1 : Int32)) + (1 : Int32))), .val (.int g3)]) (st' := [(.int (4 : Int32)), (.int (((((0 : Int32) + (1 : Int32)) + (1 : Int32)) + (1 : Int32)) + (1 : Int32)))]) rfl ?_
  refine Goes.if2 A d1_39 (by decide) (pc' := 73) (by decide) (fun hc44 => ?_) (fun hc => absurd (cP_t (by decide)) hc)
  refine Goes.blk A _ b1_73_4 (pc' := 79) (Ls' := #[.val (.ref cg), .val (.ref gr), .val (.int (3 : Int32)), .val .null, .val (.int (0 : Int32)), .val (.int (4 : Int32)), .val (.int (((((0 : Int32) + (1 : Int32)) + (1 : Int32)) + (1 : Int32)) + (1 : Int32))), .val (.int g3)]) (st' := [(.int (3 : Int32)), (.int (0 : Int32))]) rfl ?_
  refine Goes.if2 A d1_79 (by decide) (pc' := 107) (by decide) (fun hc => absurd hc (cP_f (by decide))) (fun hc45 => ?_)
  refine Goes.blk A _ b1_82_1 (pc' := 83) (Ls' := #[.val (.ref cg), .val (.ref gr), .val (.int (3 : Int32)), .val .null, .val (.int (0 : Int32)), .val (.int (4 : Int32)), .val (.int (((((0 : Int32) + (1 : Int32)) + (1 : Int32)) + (1 : Int32)) + (1 : Int32))), .val (.int g3)]) (st' := [(.ref cg)]) rfl ?_
  refine Goes.getF A (hw _ (List.mem_of_getElem? (i := 34) rfl)) Via.refl (R36.fld (i := 0) (j := 1) rfl rfl) d1_83 ?_
  refine Goes.blk A _ b1_86_4 (pc' := 91) (Ls' := #[.val (.ref cg), .val (.ref gr), .val (.int (3 : Int32)), .val .null, .val (.int (0 : Int32)), .val (.int (4 : Int32)), .val (.int (((((0 : Int32) + (1 : Int32)) + (1 : Int32)) + (1 : Int32)) + (1 : Int32))), .val (.int g3)]) (st' := [(.int ((0 : Int32) + (1 : Int32))), (.ref b5), (.int ((0 : Int32) + (1 : Int32))), (.ref b5)]) rfl ?_
  refine Goes.iaload A R36 (i := 4) rfl (k := 1) (by decide) rfl d1_91 ?_
  refine Goes.blk A _ b1_92_1 (pc' := 93) (Ls' := #[.val (.ref cg), .val (.ref gr), .val (.int (3 : Int32)), .val .null, .val (.int (0 : Int32)), .val (.int (4 : Int32)), .val (.int (((((0 : Int32) + (1 : Int32)) + (1 : Int32)) + (1 : Int32)) + (1 : Int32))), .val (.int g3)]) (st' := [(.ref cg), (.int x3_0), (.int ((0 : Int32) + (1 : Int32))), (.ref b5)]) rfl ?_
  refine Goes.getF A (hw _ (List.mem_of_getElem? (i := 34) rfl)) Via.refl (R36.fld (i := 0) (j := 1) rfl rfl) d1_93 ?_
  refine Goes.blk A _ b1_96_1 (pc' := 98) (Ls' := #[.val (.ref cg), .val (.ref gr), .val (.int (3 : Int32)), .val .null, .val (.int (0 : Int32)), .val (.int (4 : Int32)), .val (.int (((((0 : Int32) + (1 : Int32)) + (1 : Int32)) + (1 : Int32)) + (1 : Int32))), .val (.int g3)]) (st' := [(.int (0 : Int32)), (.ref b5), (.int x3_0), (.int ((0 : Int32) + (1 : Int32))), (.ref b5)]) rfl ?_
  refine Goes.iaload A R36 (i := 4) rfl (k := 0) (by decide) rfl d1_98 ?_
  refine Goes.blk A _ b1_99_1 (pc' := 100) (Ls' := #[.val (.ref cg), .val (.ref gr), .val (.int (3 : Int32)), .val .null, .val (.int (0 : Int32)), .val (.int (4 : Int32)), .val (.int (((((0 : Int32) + (1 : Int32)) + (1 : Int32)) + (1 : Int32)) + (1 : Int32))), .val (.int g3)]) (st' := [(.int (x3_0 + (0 : Int32))), (.int ((0 : Int32) + (1 : Int32))), (.ref b5)]) rfl ?_
  refine Goes.iastore A R36 K36 (i := 4) rfl (Or.inr zs6) (k := 1) (by decide) (Nat.le_of_ble_eq_true rfl) d1_100 (fun h46 K46 R46 => ?_)
  replace R46 : Rep Z a0 n0 h46 GB [(cg, true, .inl ("com/example/stillpoint/stillpoint/spec/CallGroups", (CGs .null (.ref b5) .null (.ref b1) .null .null .null))), (gr, true, .inr (.int, [(.int g0), (.int g1), (.int g2), (.int g3)])), (b1, true, .inl ("java/util/BitSet", (BSs (.ref wd) (.int (0 : Int32)) (.int (0 : Int32))))), (wd, true, .inr (.long, [(.long (0 : Int64))])), (b5, true, .inr (.int, [(.int (0 : Int32)), (.int (x3_0 + (0 : Int32))), (.int x3_1), (.int x3_2)]))] := R46
  refine Goes.blk A _ b1_101_1 (pc' := 104) (Ls' := #[.val (.ref cg), .val (.ref gr), .val (.int (3 : Int32)), .val .null, .val (.int ((0 : Int32) + (1 : Int32))), .val (.int (4 : Int32)), .val (.int (((((0 : Int32) + (1 : Int32)) + (1 : Int32)) + (1 : Int32)) + (1 : Int32))), .val (.int g3)]) (st' := []) rfl ?_
  refine Goes.jump A d1_104 (by decide) (pc' := 76) (by decide) ?_
  refine Goes.blk A _ b1_76_2 (pc' := 79) (Ls' := #[.val (.ref cg), .val (.ref gr), .val (.int (3 : Int32)), .val .null, .val (.int ((0 : Int32) + (1 : Int32))), .val (.int (4 : Int32)), .val (.int (((((0 : Int32) + (1 : Int32)) + (1 : Int32)) + (1 : Int32)) + (1 : Int32))), .val (.int g3)]) (st' := [(.int (3 : Int32)), (.int ((0 : Int32) + (1 : Int32)))]) rfl ?_
  refine Goes.if2 A d1_79 (by decide) (pc' := 107) (by decide) (fun hc => absurd hc (cP_f (by decide))) (fun hc47 => ?_)
  refine Goes.blk A _ b1_82_1 (pc' := 83) (Ls' := #[.val (.ref cg), .val (.ref gr), .val (.int (3 : Int32)), .val .null, .val (.int ((0 : Int32) + (1 : Int32))), .val (.int (4 : Int32)), .val (.int (((((0 : Int32) + (1 : Int32)) + (1 : Int32)) + (1 : Int32)) + (1 : Int32))), .val (.int g3)]) (st' := [(.ref cg)]) rfl ?_
  refine Goes.getF A (hw _ (List.mem_of_getElem? (i := 34) rfl)) Via.refl (R46.fld (i := 0) (j := 1) rfl rfl) d1_83 ?_
  refine Goes.blk A _ b1_86_4 (pc' := 91) (Ls' := #[.val (.ref cg), .val (.ref gr), .val (.int (3 : Int32)), .val .null, .val (.int ((0 : Int32) + (1 : Int32))), .val (.int (4 : Int32)), .val (.int (((((0 : Int32) + (1 : Int32)) + (1 : Int32)) + (1 : Int32)) + (1 : Int32))), .val (.int g3)]) (st' := [(.int (((0 : Int32) + (1 : Int32)) + (1 : Int32))), (.ref b5), (.int (((0 : Int32) + (1 : Int32)) + (1 : Int32))), (.ref b5)]) rfl ?_
  refine Goes.iaload A R46 (i := 4) rfl (k := 2) (by decide) rfl d1_91 ?_
  refine Goes.blk A _ b1_92_1 (pc' := 93) (Ls' := #[.val (.ref cg), .val (.ref gr), .val (.int (3 : Int32)), .val .null, .val (.int ((0 : Int32) + (1 : Int32))), .val (.int (4 : Int32)), .val (.int (((((0 : Int32) + (1 : Int32)) + (1 : Int32)) + (1 : Int32)) + (1 : Int32))), .val (.int g3)]) (st' := [(.ref cg), (.int x3_1), (.int (((0 : Int32) + (1 : Int32)) + (1 : Int32))), (.ref b5)]) rfl ?_
  refine Goes.getF A (hw _ (List.mem_of_getElem? (i := 34) rfl)) Via.refl (R46.fld (i := 0) (j := 1) rfl rfl) d1_93 ?_
  refine Goes.blk A _ b1_96_1 (pc' := 98) (Ls' := #[.val (.ref cg), .val (.ref gr), .val (.int (3 : Int32)), .val .null, .val (.int ((0 : Int32) + (1 : Int32))), .val (.int (4 : Int32)), .val (.int (((((0 : Int32) + (1 : Int32)) + (1 : Int32)) + (1 : Int32)) + (1 : Int32))), .val (.int g3)]) (st' := [(.int ((0 : Int32) + (1 : Int32))), (.ref b5), (.int x3_1), (.int (((0 : Int32) + (1 : Int32)) + (1 : Int32))), (.ref b5)]) rfl ?_
  refine Goes.iaload A R46 (i := 4) rfl (k := 1) (by decide) rfl d1_98 ?_
  refine Goes.blk A _ b1_99_1 (pc' := 100) (Ls' := #[.val (.ref cg), .val (.ref gr), .val (.int (3 : Int32)), .val .null, .val (.int ((0 : Int32) + (1 : Int32))), .val (.int (4 : Int32)), .val (.int (((((0 : Int32) + (1 : Int32)) + (1 : Int32)) + (1 : Int32)) + (1 : Int32))), .val (.int g3)]) (st' := [(.int (x3_1 + (x3_0 + (0 : Int32)))), (.int (((0 : Int32) + (1 : Int32)) + (1 : Int32))), (.ref b5)]) rfl ?_
  refine Goes.iastore A R46 K46 (i := 4) rfl (Or.inr zs6) (k := 2) (by decide) (Nat.le_of_ble_eq_true rfl) d1_100 (fun h48 K48 R48 => ?_)
  replace R48 : Rep Z a0 n0 h48 GB [(cg, true, .inl ("com/example/stillpoint/stillpoint/spec/CallGroups", (CGs .null (.ref b5) .null (.ref b1) .null .null .null))), (gr, true, .inr (.int, [(.int g0), (.int g1), (.int g2), (.int g3)])), (b1, true, .inl ("java/util/BitSet", (BSs (.ref wd) (.int (0 : Int32)) (.int (0 : Int32))))), (wd, true, .inr (.long, [(.long (0 : Int64))])), (b5, true, .inr (.int, [(.int (0 : Int32)), (.int (x3_0 + (0 : Int32))), (.int (x3_1 + (x3_0 + (0 : Int32)))), (.int x3_2)]))] := R48
  refine Goes.blk A _ b1_101_1 (pc' := 104) (Ls' := #[.val (.ref cg), .val (.ref gr), .val (.int (3 : Int32)), .val .null, .val (.int (((0 : Int32) + (1 : Int32)) + (1 : Int32))), .val (.int (4 : Int32)), .val (.int (((((0 : Int32) + (1 : Int32)) + (1 : Int32)) + (1 : Int32)) + (1 : Int32))), .val (.int g3)]) (st' := []) rfl ?_
  refine Goes.jump A d1_104 (by decide) (pc' := 76) (by decide) ?_
  refine Goes.blk A _ b1_76_2 (pc' := 79) (Ls' := #[.val (.ref cg), .val (.ref gr), .val (.int (3 : Int32)), .val .null, .val (.int (((0 : Int32) + (1 : Int32)) + (1 : Int32))), .val (.int (4 : Int32)), .val (.int (((((0 : Int32) + (1 : Int32)) + (1 : Int32)) + (1 : Int32)) + (1 : Int32))), .val (.int g3)]) (st' := [(.int (3 : Int32)), (.int (((0 : Int32) + (1 : Int32)) + (1 : Int32)))]) rfl ?_
  refine Goes.if2 A d1_79 (by decide) (pc' := 107) (by decide) (fun hc => absurd hc (cP_f (by decide))) (fun hc49 => ?_)
  refine Goes.blk A _ b1_82_1 (pc' := 83) (Ls' := #[.val (.ref cg), .val (.ref gr), .val (.int (3 : Int32)), .val .null, .val (.int (((0 : Int32) + (1 : Int32)) + (1 : Int32))), .val (.int (4 : Int32)), .val (.int (((((0 : Int32) + (1 : Int32)) + (1 : Int32)) + (1 : Int32)) + (1 : Int32))), .val (.int g3)]) (st' := [(.ref cg)]) rfl ?_
  refine Goes.getF A (hw _ (List.mem_of_getElem? (i := 34) rfl)) Via.refl (R48.fld (i := 0) (j := 1) rfl rfl) d1_83 ?_
  refine Goes.blk A _ b1_86_4 (pc' := 91) (Ls' := #[.val (.ref cg), .val (.ref gr), .val (.int (3 : Int32)), .val .null, .val (.int (((0 : Int32) + (1 : Int32)) + (1 : Int32))), .val (.int (4 : Int32)), .val (.int (((((0 : Int32) + (1 : Int32)) + (1 : Int32)) + (1 : Int32)) + (1 : Int32))), .val (.int g3)]) (st' := [(.int ((((0 : Int32) + (1 : Int32)) + (1 : Int32)) + (1 : Int32))), (.ref b5), (.int ((((0 : Int32) + (1 : Int32)) + (1 : Int32)) + (1 : Int32))), (.ref b5)]) rfl ?_
  refine Goes.iaload A R48 (i := 4) rfl (k := 3) (by decide) rfl d1_91 ?_
  refine Goes.blk A _ b1_92_1 (pc' := 93) (Ls' := #[.val (.ref cg), .val (.ref gr), .val (.int (3 : Int32)), .val .null, .val (.int (((0 : Int32) + (1 : Int32)) + (1 : Int32))), .val (.int (4 : Int32)), .val (.int (((((0 : Int32) + (1 : Int32)) + (1 : Int32)) + (1 : Int32)) + (1 : Int32))), .val (.int g3)]) (st' := [(.ref cg), (.int x3_2), (.int ((((0 : Int32) + (1 : Int32)) + (1 : Int32)) + (1 : Int32))), (.ref b5)]) rfl ?_
  refine Goes.getF A (hw _ (List.mem_of_getElem? (i := 34) rfl)) Via.refl (R48.fld (i := 0) (j := 1) rfl rfl) d1_93 ?_
  refine Goes.blk A _ b1_96_1 (pc' := 98) (Ls' := #[.val (.ref cg), .val (.ref gr), .val (.int (3 : Int32)), .val .null, .val (.int (((0 : Int32) + (1 : Int32)) + (1 : Int32))), .val (.int (4 : Int32)), .val (.int (((((0 : Int32) + (1 : Int32)) + (1 : Int32)) + (1 : Int32)) + (1 : Int32))), .val (.int g3)]) (st' := [(.int (((0 : Int32) + (1 : Int32)) + (1 : Int32))), (.ref b5), (.int x3_2), (.int ((((0 : Int32) + (1 : Int32)) + (1 : Int32)) + (1 : Int32))), (.ref b5)]) rfl ?_
  refine Goes.iaload A R48 (i := 4) rfl (k := 2) (by decide) rfl d1_98 ?_
  refine Goes.blk A _ b1_99_1 (pc' := 100) (Ls' := #[.val (.ref cg), .val (.ref gr), .val (.int (3 : Int32)), .val .null, .val (.int (((0 : Int32) + (1 : Int32)) + (1 : Int32))), .val (.int (4 : Int32)), .val (.int (((((0 : Int32) + (1 : Int32)) + (1 : Int32)) + (1 : Int32)) + (1 : Int32))), .val (.int g3)]) (st' := [(.int (x3_2 + (x3_1 + (x3_0 + (0 : Int32))))), (.int ((((0 : Int32) + (1 : Int32)) + (1 : Int32)) + (1 : Int32))), (.ref b5)]) rfl ?_
  refine Goes.iastore A R48 K48 (i := 4) rfl (Or.inr zs6) (k := 3) (by decide) (Nat.le_of_ble_eq_true rfl) d1_100 (fun h50 K50 R50 => ?_)
  replace R50 : Rep Z a0 n0 h50 GB [(cg, true, .inl ("com/example/stillpoint/stillpoint/spec/CallGroups", (CGs .null (.ref b5) .null (.ref b1) .null .null .null))), (gr, true, .inr (.int, [(.int g0), (.int g1), (.int g2), (.int g3)])), (b1, true, .inl ("java/util/BitSet", (BSs (.ref wd) (.int (0 : Int32)) (.int (0 : Int32))))), (wd, true, .inr (.long, [(.long (0 : Int64))])), (b5, true, .inr (.int, [(.int (0 : Int32)), (.int (x3_0 + (0 : Int32))), (.int (x3_1 + (x3_0 + (0 : Int32)))), (.int (x3_2 + (x3_1 + (x3_0 + (0 : Int32)))))]))] := R50
  refine Goes.blk A _ b1_101_1 (pc' := 104) (Ls' := #[.val (.ref cg), .val (.ref gr), .val (.int (3 : Int32)), .val .null, .val (.int ((((0 : Int32) + (1 : Int32)) + (1 : Int32)) + (1 : Int32))), .val (.int (4 : Int32)), .val (.int (((((0 : Int32) + (1 : Int32)) + (1 : Int32)) + (1 : Int32)) + (1 : Int32))), .val (.int g3)]) (st' := []) rfl ?_
  refine Goes.jump A d1_104 (by decide) (pc' := 76) (by decide) ?_
  refine Goes.blk A _ b1_76_2 (pc' := 79) (Ls' := #[.val (.ref cg), .val (.ref gr), .val (.int (3 : Int32)), .val .null, .val (.int ((((0 : Int32) + (1 : Int32)) + (1 : Int32)) + (1 : Int32))), .val (.int (4 : Int32)), .val (.int (((((0 : Int32) + (1 : Int32)) + (1 : Int32)) + (1 : Int32)) + (1 : Int32))), .val (.int g3)]) (st' := [(.int (3 : Int32)), (.int ((((0 : Int32) + (1 : Int32)) + (1 : Int32)) + (1 : Int32)))]) rfl ?_
  refine Goes.if2 A d1_79 (by decide) (pc' := 107) (by decide) (fun hc51 => ?_) (fun hc => absurd (cP_t (by decide)) hc)
  refine Goes.blk A _ b1_107_2 (pc' := 109) (Ls' := #[.val (.ref cg), .val (.ref gr), .val (.int (3 : Int32)), .val .null, .val (.int ((((0 : Int32) + (1 : Int32)) + (1 : Int32)) + (1 : Int32))), .val (.int (4 : Int32)), .val (.int (((((0 : Int32) + (1 : Int32)) + (1 : Int32)) + (1 : Int32)) + (1 : Int32))), .val (.int g3)]) (st' := [(.ref cg), (.ref cg)]) rfl ?_
  refine Goes.getF A (hw _ (List.mem_of_getElem? (i := 34) rfl)) Via.refl (R50.fld (i := 0) (j := 1) rfl rfl) d1_109 ?_
  refine Goes.blk A _ b1_112_1 (pc' := 113) (Ls' := #[.val (.ref cg), .val (.ref gr), .val (.int (3 : Int32)), .val .null, .val (.int ((((0 : Int32) + (1 : Int32)) + (1 : Int32)) + (1 : Int32))), .val (.int (4 : Int32)), .val (.int (((((0 : Int32) + (1 : Int32)) + (1 : Int32)) + (1 : Int32)) + (1 : Int32))), .val (.int g3)]) (st' := [(.int (3 : Int32)), (.ref b5), (.ref cg)]) rfl ?_
  refine Goes.iaload A R50 (i := 4) rfl (k := 3) (by decide) rfl d1_113 ?_
  refine Goes.newArr A (hw _ (List.mem_of_getElem? (i := 0) rfl)) R50 K50 Z0 d1_114 (k := (T3 g0 g1 g2 g3).toInt.toNat) (by subst_vars; exact (Int.toNat_of_nonneg hN0).symm) (cap := 4) (by omega) (by decide) (by decide) (by decide) (fun bgA h52 zs52 zt52 K52 R52 => ?_)
  replace R52 : Rep Z a0 n0 h52 GB [(cg, true, .inl ("com/example/stillpoint/stillpoint/spec/CallGroups", (CGs .null (.ref b5) .null (.ref b1) .null .null .null))), (gr, true, .inr (.int, [(.int g0), (.int g1), (.int g2), (.int g3)])), (b1, true, .inl ("java/util/BitSet", (BSs (.ref wd) (.int (0 : Int32)) (.int (0 : Int32))))), (wd, true, .inr (.long, [(.long (0 : Int64))])), (b5, true, .inr (.int, [(.int (0 : Int32)), (.int (x3_0 + (0 : Int32))), (.int (x3_1 + (x3_0 + (0 : Int32)))), (.int (x3_2 + (x3_1 + (x3_0 + (0 : Int32)))))])), (bgA, true, .inr (.int, (List.replicate (T3 g0 g1 g2 g3).toInt.toNat (Value.int (0 : Int32)))))] := R52
  show Goes p l e _ s m _ below meth c n0 _ h52 4 12 116 #[.val (.ref cg), .val (.ref gr), .val (.int (3 : Int32)), .val .null, .val (.int ((((0 : Int32) + (1 : Int32)) + (1 : Int32)) + (1 : Int32))), .val (.int (4 : Int32)), .val (.int (((((0 : Int32) + (1 : Int32)) + (1 : Int32)) + (1 : Int32)) + (1 : Int32))), .val (.int g3)] [(.ref bgA), (.ref cg)]
  refine Goes.put A (hw _ (List.mem_of_getElem? (i := 36) rfl)) Via.refl R52 K52 (i := 0) (j := 0) rfl rfl (Or.inl (List.mem_of_getElem? (i := 0) rfl)) (Or.inr ⟨(hw _ (List.mem_of_getElem? (i := 37) rfl)), rfl, hnm⟩) (hw _ (List.mem_of_getElem? (i := 2) rfl)) (ty := (.array .int)) (by decide) rfl rfl d1_116 (fun h53 K53 R53 => ?_)
  replace R53 : Rep Z a0 n0 h53 GB [(cg, true, .inl ("com/example/stillpoint/stillpoint/spec/CallGroups", (CGs (.ref bgA) (.ref b5) .null (.ref b1) .null .null .null))), (gr, true, .inr (.int, [(.int g0), (.int g1), (.int g2), (.int g3)])), (b1, true, .inl ("java/util/BitSet", (BSs (.ref wd) (.int (0 : Int32)) (.int (0 : Int32))))), (wd, true, .inr (.long, [(.long (0 : Int64))])), (b5, true, .inr (.int, [(.int (0 : Int32)), (.int (x3_0 + (0 : Int32))), (.int (x3_1 + (x3_0 + (0 : Int32)))), (.int (x3_2 + (x3_1 + (x3_0 + (0 : Int32)))))])), (bgA, true, .inr (.int, (List.replicate (T3 g0 g1 g2 g3).toInt.toNat (Value.int (0 : Int32)))))] := R53
  refine Goes.blk A _ b1_119_2 (pc' := 121) (Ls' := #[.val (.ref cg), .val (.ref gr), .val (.int (3 : Int32)), .val .null, .val (.int ((((0 : Int32) + (1 : Int32)) + (1 : Int32)) + (1 : Int32))), .val (.int (4 : Int32)), .val (.int (((((0 : Int32) + (1 : Int32)) + (1 : Int32)) + (1 : Int32)) + (1 : Int32))), .val (.int g3)]) (st' := [(.ref gr), (.ref cg)]) rfl ?_
  refine Goes.alen A R53 (i := 1) rfl (z := 4) (by rfl) d1_121 ?_
  refine Goes.newArr A (hw _ (List.mem_of_getElem? (i := 0) rfl)) R53 K53 Z0 d1_122 (k := 4) (by decide) (cap := 4) (by decide) (by decide) (by decide) (by decide) (fun b54 h55 zs55 zt55 K55 R55 => ?_)
  replace R55 : Rep Z a0 n0 h55 GB [(cg, true, .inl ("com/example/stillpoint/stillpoint/spec/CallGroups", (CGs (.ref bgA) (.ref b5) .null (.ref b1) .null .null .null))), (gr, true, .inr (.int, [(.int g0), (.int g1), (.int g2), (.int g3)])), (b1, true, .inl ("java/util/BitSet", (BSs (.ref wd) (.int (0 : Int32)) (.int (0 : Int32))))), (wd, true, .inr (.long, [(.long (0 : Int64))])), (b5, true, .inr (.int, [(.int (0 : Int32)), (.int (x3_0 + (0 : Int32))), (.int (x3_1 + (x3_0 + (0 : Int32)))), (.int (x3_2 + (x3_1 + (x3_0 + (0 : Int32)))))])), (bgA, true, .inr (.int, (List.replicate (T3 g0 g1 g2 g3).toInt.toNat (Value.int (0 : Int32))))), (b54, true, .inr (.int, [(.int (0 : Int32)), (.int (0 : Int32)), (.int (0 : Int32)), (.int (0 : Int32))]))] := R55
  show Goes p l e _ s m _ below meth c n0 _ h55 5 16 124 #[.val (.ref cg), .val (.ref gr), .val (.int (3 : Int32)), .val .null, .val (.int ((((0 : Int32) + (1 : Int32)) + (1 : Int32)) + (1 : Int32))), .val (.int (4 : Int32)), .val (.int (((((0 : Int32) + (1 : Int32)) + (1 : Int32)) + (1 : Int32)) + (1 : Int32))), .val (.int g3)] [(.ref b54), (.ref cg)]
  refine Goes.put A (hw _ (List.mem_of_getElem? (i := 38) rfl)) Via.refl R55 K55 (i := 0) (j := 2) rfl rfl (Or.inl (List.mem_of_getElem? (i := 0) rfl)) (Or.inr ⟨(hw _ (List.mem_of_getElem? (i := 39) rfl)), rfl, hnm⟩) (hw _ (List.mem_of_getElem? (i := 2) rfl)) (ty := (.array .int)) (by decide) rfl rfl d1_124 (fun h56 K56 R56 => ?_)
  replace R56 : Rep Z a0 n0 h56 GB [(cg, true, .inl ("com/example/stillpoint/stillpoint/spec/CallGroups", (CGs (.ref bgA) (.ref b5) (.ref b54) (.ref b1) .null .null .null))), (gr, true, .inr (.int, [(.int g0), (.int g1), (.int g2), (.int g3)])), (b1, true, .inl ("java/util/BitSet", (BSs (.ref wd) (.int (0 : Int32)) (.int (0 : Int32))))), (wd, true, .inr (.long, [(.long (0 : Int64))])), (b5, true, .inr (.int, [(.int (0 : Int32)), (.int (x3_0 + (0 : Int32))), (.int (x3_1 + (x3_0 + (0 : Int32)))), (.int (x3_2 + (x3_1 + (x3_0 + (0 : Int32)))))])), (bgA, true, .inr (.int, (List.replicate (T3 g0 g1 g2 g3).toInt.toNat (Value.int (0 : Int32))))), (b54, true, .inr (.int, [(.int (0 : Int32)), (.int (0 : Int32)), (.int (0 : Int32)), (.int (0 : Int32))]))] := R56
  refine Goes.blk A _ b1_127_1 (pc' := 128) (Ls' := #[.val (.ref cg), .val (.ref gr), .val (.int (3 : Int32)), .val .null, .val (.int ((((0 : Int32) + (1 : Int32)) + (1 : Int32)) + (1 : Int32))), .val (.int (4 : Int32)), .val (.int (((((0 : Int32) + (1 : Int32)) + (1 : Int32)) + (1 : Int32)) + (1 : Int32))), .val (.int g3)]) (st' := [(.ref cg)]) rfl ?_
  refine Goes.getF A (hw _ (List.mem_of_getElem? (i := 34) rfl)) Via.refl (R56.fld (i := 0) (j := 1) rfl rfl) d1_128 ?_
  refine Goes.blk A _ b1_131_1 (pc' := 132) (Ls' := #[.val (.ref cg), .val (.ref gr), .val (.int (3 : Int32)), .val .null, .val (.int ((((0 : Int32) + (1 : Int32)) + (1 : Int32)) + (1 : Int32))), .val (.int (4 : Int32)), .val (.int (((((0 : Int32) + (1 : Int32)) + (1 : Int32)) + (1 : Int32)) + (1 : Int32))), .val (.int g3)]) (st' := [(.int (3 : Int32)), (.ref b5)]) rfl ?_
  refine Goes.static A (hw _ (List.mem_of_getElem? (i := 40) rfl)) (hw _ (List.mem_of_getElem? (i := 41) rfl)) (hw _ (List.mem_of_getElem? (i := 42) rfl)) (hw _ (List.mem_of_getElem? (i := 43) rfl)) d1_132 pd_640543 (by decide) (argsL := [(.ref b5), (.int (3 : Int32))]) (rest := []) rfl rfl rfl (W := 0) (Nat.le_of_ble_eq_true rfl) (by decide) (by decide) (by decide) (by decide) (kCO l Z n0 a0 hw h56 (Nat.le_trans Z0 K56.1) b5 (0 : Int32) (x3_0 + (0 : Int32)) (x3_1 + (x3_0 + (0 : Int32))) (x3_2 + (x3_1 + (x3_0 + (0 : Int32)))) (R56.pick [] [4] rfl rfl (by decide))) (fun v h57 hh => ?_)
  obtain ⟨fl, rfl, zt57_0, Kc57, Rc57⟩ := hh
  have R57 := R56.upd Kc57 [4] Rc57 (Nat.le_of_ble_eq_true rfl) rfl [] rfl (by decide) (alS zt57_0 al0)
  have K57 := K56.trans Kc57 al0
  replace R57 : Rep Z a0 n0 h57 GB [(cg, true, .inl ("com/example/stillpoint/stillpoint/spec/CallGroups", (CGs (.ref bgA) (.ref b5) (.ref b54) (.ref b1) .null .null .null))), (gr, true, .inr (.int, [(.int g0), (.int g1), (.int g2), (.int g3)])), (b1, true, .inl ("java/util/BitSet", (BSs (.ref wd) (.int (0 : Int32)) (.int (0 : Int32))))), (wd, true, .inr (.long, [(.long (0 : Int64))])), (b5, true, .inr (.int, [(.int (0 : Int32)), (.int (x3_0 + (0 : Int32))), (.int (x3_1 + (x3_0 + (0 : Int32)))), (.int (x3_2 + (x3_1 + (x3_0 + (0 : Int32)))))])), (bgA, true, .inr (.int, (List.replicate (T3 g0 g1 g2 g3).toInt.toNat (Value.int (0 : Int32))))), (b54, true, .inr (.int, [(.int (0 : Int32)), (.int (0 : Int32)), (.int (0 : Int32)), (.int (0 : Int32))])), (fl, true, .inr (.int, [(.int (0 : Int32)), (.int (x3_0 + (0 : Int32))), (.int (x3_1 + (x3_0 + (0 : Int32))))]))] := R57
  show Goes p l e _ s m _ below meth c n0 _ h57 6 19 135 #[.val (.ref cg), .val (.ref gr), .val (.int (3 : Int32)), .val .null, .val (.int ((((0 : Int32) + (1 : Int32)) + (1 : Int32)) + (1 : Int32))), .val (.int (4 : Int32)), .val (.int (((((0 : Int32) + (1 : Int32)) + (1 : Int32)) + (1 : Int32)) + (1 : Int32))), .val (.int g3)] [(.ref fl)]
  refine Goes.blk A _ b1_135_5 (pc' := 143) (Ls' := #[.val (.ref cg), .val (.ref gr), .val (.int (3 : Int32)), .val .null, .val (.ref fl), .val (.int (0 : Int32)), .val (.int (((((0 : Int32) + (1 : Int32)) + (1 : Int32)) + (1 : Int32)) + (1 : Int32))), .val (.int g3)]) (st' := [(.ref gr), (.int (0 : Int32))]) rfl ?_
  refine Goes.alen A R57 (i := 1) rfl (z := 4) (by rfl) d1_143 ?_
  refine Goes.if2 A d1_144 (by decide) (pc' := 204) (by decide) (fun hc => absurd hc (cP_f (by decide))) (fun hc58 => ?_)
  refine Goes.blk A _ b1_147_2 (pc' := 150) (Ls' := #[.val (.ref cg), .val (.ref gr), .val (.int (3 : Int32)), .val .null, .val (.ref fl), .val (.int (0 : Int32)), .val (.int (((((0 : Int32) + (1 : Int32)) + (1 : Int32)) + (1 : Int32)) + (1 : Int32))), .val (.int g3)]) (st' := [(.int (0 : Int32)), (.ref gr)]) rfl ?_
  refine Goes.iaload A R57 (i := 1) rfl (k := 0) (by decide) rfl d1_150 ?_
  refine Goes.blk A _ b1_151_2 (pc' := 154) (Ls' := #[.val (.ref cg), .val (.ref gr), .val (.int (3 : Int32)), .val .null, .val (.ref fl), .val (.int (0 : Int32)), .val (.int g0), .val (.int g3)]) (st' := [(.ref cg)]) rfl ?_
  refine Goes.getF A (hw _ (List.mem_of_getElem? (i := 38) rfl)) Via.refl (R57.fld (i := 0) (j := 2) rfl rfl) d1_154 ?_
  refine Goes.blk A _ b1_157_2 (pc' := 161) (Ls' := #[.val (.ref cg), .val (.ref gr), .val (.int (3 : Int32)), .val .null, .val (.ref fl), .val (.int (0 : Int32)), .val (.int g0), .val (.int g3)]) (st' := [(.int g0), (.int (0 : Int32)), (.ref b54)]) rfl ?_
  suffices J59 : ∀ (q0 y0_0 y0_1 y0_2 : Int32) (bl0 : List Value) (h59 : Heap), q0 = plc (0 : Int32) (x3_0 + (0 : Int32)) (x3_1 + (x3_0 + (0 : Int32))) g0 → y0_0 = bmp 0 (0 : Int32) g0 → y0_1 = bmp 1 (x3_0 + (0 : Int32)) g0 → y0_2 = bmp 2 (x3_1 + (x3_0 + (0 : Int32))) g0 → bl0 = stb (List.replicate (T3 g0 g1 g2 g3).toInt.toNat (Value.int (0 : Int32))) g0 q0 0 → (bl0).length = (T3 g0 g1 g2 g3).toInt.toNat → Keep h h59 [cg] → Rep Z a0 n0 h59 GB [(cg, true, .inl ("com/example/stillpoint/stillpoint/spec/CallGroups", (CGs (.ref bgA) (.ref b5) (.ref b54) (.ref b1) .null .null .null))), (gr, true, .inr (.int, [(.int g0), (.int g1), (.int g2), (.int g3)])), (b1, true, .inl ("java/util/BitSet", (BSs (.ref wd) (.int (0 : Int32)) (.int (0 : Int32))))), (wd, true, .inr (.long, [(.long (0 : Int64))])), (b5, true, .inr (.int, [(.int (0 : Int32)), (.int (x3_0 + (0 : Int32))), (.int (x3_1 + (x3_0 + (0 : Int32)))), (.int (x3_2 + (x3_1 + (x3_0 + (0 : Int32)))))])), (bgA, true, .inr (.int, bl0)), (b54, true, .inr (.int, [(.int q0), (.int (0 : Int32)), (.int (0 : Int32)), (.int (0 : Int32))])), (fl, true, .inr (.int, [(.int y0_0), (.int y0_1), (.int y0_2)]))] → Goes p l e ({ frames := 3, cells := 6, slots := 19, locals := 49 } : Room) s m #[(.ref cg), (.ref gr), (.int (3 : Int32)), .null] below meth c n0 (fun v h' => ∃ bs wd st bg po fl u w f0 f1 f2, (u = 0 ∨ u = 1) ∧ v = none ∧ h.size ≤ bs ∧ h.size ≤ wd ∧ h.size ≤ st ∧ h.size ≤ bg ∧ h.size ≤ po ∧ h.size ≤ fl ∧ Keep h h' [cg] ∧ Rep Z a0 n0 h' GB [(cg, true, .inl ("com/example/stillpoint/stillpoint/spec/CallGroups", (CGs (.ref bg) (.ref st) (.ref po) (.ref bs) .null .null .null))), (gr, true, .inr (.int, [(.int g0), (.int g1), (.int g2), (.int g3)])), (bs, true, .inl ("java/util/BitSet", (BSs (.ref wd) (.int u) (.int (0 : Int32))))), (wd, true, .inr (.long, [(.long w)])), (st, true, .inr (.int, [(.int (0 : Int32)), (.int (T1 g0 g1 g2 g3)), (.int (T2 g0 g1 g2 g3)), (.int (T3 g0 g1 g2 g3))])), (bg, true, .inr (.int, (BGF g0 g1 g2 g3))), (po, true, .inr (.int, [(.int (P0 g0 g1 g2 g3)), (.int (P1 g0 g1 g2 g3)), (.int (P2 g0 g1 g2 g3)), (.int (P3 g0 g1 g2 g3))])), (fl, true, .inr (.int, [(.int f0), (.int f1), (.int f2)]))]) h59 6 19 198 #[.val (.ref cg), .val (.ref gr), .val (.int (3 : Int32)), .val .null, .val (.ref fl), .val (.int (0 : Int32)), .val (.int g0), .val (.int g3)] [] by
    have hlen : ((List.replicate (T3 g0 g1 g2 g3).toInt.toNat (Value.int (0 : Int32)))).length = (T3 g0 g1 g2 g3).toInt.toNat := List.length_replicate
    have hb := okP_of hB0
    rcases hg0 with rfl | rfl | rfl | rfl
    · skip
      refine Goes.if1 A d1_161 (by decide) (pc' := 168) (by decide) (fun hc => absurd hc (cP_f (by decide))) (fun hc60 => ?_)
      refine Goes.blk A _ b1_164_1 (pc' := 165) (Ls' := #[.val (.ref cg), .val (.ref gr), .val (.int (3 : Int32)), .val .null, .val (.ref fl), .val (.int (0 : Int32)), .val (.int (-1 : Int32)), .val (.int g3)]) (st' := [(.int (-1 : Int32)), (.int (0 : Int32)), (.ref b54)]) rfl ?_
      refine Goes.jump A d1_165 (by decide) (pc' := 178) (by decide) ?_
      refine Goes.iastore A R57 K57 (i := 6) rfl (Or.inr zs55) (k := 0) (by decide) (Nat.le_of_ble_eq_true rfl) d1_178 (fun h61 K61 R61 => ?_)
      replace R61 : Rep Z a0 n0 h61 GB [(cg, true, .inl ("com/example/stillpoint/stillpoint/spec/CallGroups", (CGs (.ref bgA) (.ref b5) (.ref b54) (.ref b1) .null .null .null))), (gr, true, .inr (.int, [(.int (-1 : Int32)), (.int g1), (.int g2), (.int g3)])), (b1, true, .inl ("java/util/BitSet", (BSs (.ref wd) (.int (0 : Int32)) (.int (0 : Int32))))), (wd, true, .inr (.long, [(.long (0 : Int64))])), (b5, true, .inr (.int, [(.int (0 : Int32)), (.int (x3_0 + (0 : Int32))), (.int (x3_1 + (x3_0 + (0 : Int32)))), (.int (x3_2 + (x3_1 + (x3_0 + (0 : Int32)))))])), (bgA, true, .inr (.int, (List.replicate (T3 (-1 : Int32) g1 g2 g3).toInt.toNat (Value.int (0 : Int32))))), (b54, true, .inr (.int, [(.int (-1 : Int32)), (.int (0 : Int32)), (.int (0 : Int32)), (.int (0 : Int32))])), (fl, true, .inr (.int, [(.int (0 : Int32)), (.int (x3_0 + (0 : Int32))), (.int (x3_1 + (x3_0 + (0 : Int32))))]))] := R61
      refine Goes.blk A _ b1_179_1 (pc' := 181) (Ls' := #[.val (.ref cg), .val (.ref gr), .val (.int (3 : Int32)), .val .null, .val (.ref fl), .val (.int (0 : Int32)), .val (.int (-1 : Int32)), .val (.int g3)]) (st' := [(.int (-1 : Int32))]) rfl ?_
      refine Goes.if1 A d1_181 (by decide) (pc' := 198) (by decide) (fun hc62 => ?_) (fun hc => absurd (cP_t (by decide)) hc)
      exact J59 _ _ _ _ _ _ rfl rfl rfl rfl rfl (by rw [stb_len]; exact hlen) K61 R61
    · skip
      refine Goes.if1 A d1_161 (by decide) (pc' := 168) (by decide) (fun hc63 => ?_) (fun hc => absurd (cP_t (by decide)) hc)
      refine Goes.blk A _ b1_168_3 (pc' := 173) (Ls' := #[.val (.ref cg), .val (.ref gr), .val (.int (3 : Int32)), .val .null, .val (.ref fl), .val (.int (0 : Int32)), .val (.int (0 : Int32)), .val (.int g3)]) (st' := [(.int (0 : Int32)), (.ref fl), (.int (0 : Int32)), (.ref fl), (.int (0 : Int32)), (.ref b54)]) rfl ?_
      refine Goes.iaload A R57 (i := 7) rfl (k := 0) (by decide) rfl d1_173 ?_
      refine Goes.blk A _ b1_174_3 (pc' := 177) (Ls' := #[.val (.ref cg), .val (.ref gr), .val (.int (3 : Int32)), .val .null, .val (.ref fl), .val (.int (0 : Int32)), .val (.int (0 : Int32)), .val (.int g3)]) (st' := [(.int ((0 : Int32) + (1 : Int32))), (.int (0 : Int32)), (.ref fl), (.int (0 : Int32)), (.int (0 : Int32)), (.ref b54)]) rfl ?_
      refine Goes.iastore A R57 K57 (i := 7) rfl (Or.inr (Nat.le_trans K56.1 zt57_0)) (k := 0) (by decide) (Nat.le_of_ble_eq_true rfl) d1_177 (fun h64 K64 R64 => ?_)
      replace R64 : Rep Z a0 n0 h64 GB [(cg, true, .inl ("com/example/stillpoint/stillpoint/spec/CallGroups", (CGs (.ref bgA) (.ref b5) (.ref b54) (.ref b1) .null .null .null))), (gr, true, .inr (.int, [(.int (0 : Int32)), (.int g1), (.int g2), (.int g3)])), (b1, true, .inl ("java/util/BitSet", (BSs (.ref wd) (.int (0 : Int32)) (.int (0 : Int32))))), (wd, true, .inr (.long, [(.long (0 : Int64))])), (b5, true, .inr (.int, [(.int (0 : Int32)), (.int (x3_0 + (0 : Int32))), (.int (x3_1 + (x3_0 + (0 : Int32)))), (.int (x3_2 + (x3_1 + (x3_0 + (0 : Int32)))))])), (bgA, true, .inr (.int, (List.replicate (T3 (0 : Int32) g1 g2 g3).toInt.toNat (Value.int (0 : Int32))))), (b54, true, .inr (.int, [(.int (0 : Int32)), (.int (0 : Int32)), (.int (0 : Int32)), (.int (0 : Int32))])), (fl, true, .inr (.int, [(.int ((0 : Int32) + (1 : Int32))), (.int (x3_0 + (0 : Int32))), (.int (x3_1 + (x3_0 + (0 : Int32))))]))] := R64
      refine Goes.iastore A R64 K64 (i := 6) rfl (Or.inr zs55) (k := 0) (by decide) (Nat.le_of_ble_eq_true rfl) d1_178 (fun h65 K65 R65 => ?_)
      replace R65 : Rep Z a0 n0 h65 GB [(cg, true, .inl ("com/example/stillpoint/stillpoint/spec/CallGroups", (CGs (.ref bgA) (.ref b5) (.ref b54) (.ref b1) .null .null .null))), (gr, true, .inr (.int, [(.int (0 : Int32)), (.int g1), (.int g2), (.int g3)])), (b1, true, .inl ("java/util/BitSet", (BSs (.ref wd) (.int (0 : Int32)) (.int (0 : Int32))))), (wd, true, .inr (.long, [(.long (0 : Int64))])), (b5, true, .inr (.int, [(.int (0 : Int32)), (.int (x3_0 + (0 : Int32))), (.int (x3_1 + (x3_0 + (0 : Int32)))), (.int (x3_2 + (x3_1 + (x3_0 + (0 : Int32)))))])), (bgA, true, .inr (.int, (List.replicate (T3 (0 : Int32) g1 g2 g3).toInt.toNat (Value.int (0 : Int32))))), (b54, true, .inr (.int, [(.int (0 : Int32)), (.int (0 : Int32)), (.int (0 : Int32)), (.int (0 : Int32))])), (fl, true, .inr (.int, [(.int ((0 : Int32) + (1 : Int32))), (.int (x3_0 + (0 : Int32))), (.int (x3_1 + (x3_0 + (0 : Int32))))]))] := R65
      refine Goes.blk A _ b1_179_1 (pc' := 181) (Ls' := #[.val (.ref cg), .val (.ref gr), .val (.int (3 : Int32)), .val .null, .val (.ref fl), .val (.int (0 : Int32)), .val (.int (0 : Int32)), .val (.int g3)]) (st' := [(.int (0 : Int32))]) rfl ?_
      refine Goes.if1 A d1_181 (by decide) (pc' := 198) (by decide) (fun hc => absurd hc (cP_f (by decide))) (fun hc66 => ?_)
      refine Goes.blk A _ b1_184_1 (pc' := 185) (Ls' := #[.val (.ref cg), .val (.ref gr), .val (.int (3 : Int32)), .val .null, .val (.ref fl), .val (.int (0 : Int32)), .val (.int (0 : Int32)), .val (.int g3)]) (st' := [(.ref cg)]) rfl ?_
      refine Goes.getF A (hw _ (List.mem_of_getElem? (i := 36) rfl)) Via.refl (R65.fld (i := 0) (j := 0) rfl rfl) d1_185 ?_
      refine Goes.blk A _ b1_188_1 (pc' := 189) (Ls' := #[.val (.ref cg), .val (.ref gr), .val (.int (3 : Int32)), .val .null, .val (.ref fl), .val (.int (0 : Int32)), .val (.int (0 : Int32)), .val (.int g3)]) (st' := [(.ref cg), (.ref bgA)]) rfl ?_
      refine Goes.getF A (hw _ (List.mem_of_getElem? (i := 38) rfl)) Via.refl (R65.fld (i := 0) (j := 2) rfl rfl) d1_189 ?_
      refine Goes.blk A _ b1_192_1 (pc' := 194) (Ls' := #[.val (.ref cg), .val (.ref gr), .val (.int (3 : Int32)), .val .null, .val (.ref fl), .val (.int (0 : Int32)), .val (.int (0 : Int32)), .val (.int g3)]) (st' := [(.int (0 : Int32)), (.ref b54), (.ref bgA)]) rfl ?_
      refine Goes.iaload A R65 (i := 6) rfl (k := 0) (by decide) rfl d1_194 ?_
      refine Goes.blk A _ b1_195_1 (pc' := 197) (Ls' := #[.val (.ref cg), .val (.ref gr), .val (.int (3 : Int32)), .val .null, .val (.ref fl), .val (.int (0 : Int32)), .val (.int (0 : Int32)), .val (.int g3)]) (st' := [(.int (0 : Int32)), (.int (0 : Int32)), (.ref bgA)]) rfl ?_
      have hb2 : 0 ≤ ((0 : Int32)).toInt ∧ ((0 : Int32)).toInt < (T3 0 g1 g2 g3).toInt := by have q9 := hb (by decide); subst_vars; exact q9
      refine Goes.iastore A R65 K65 (i := 5) rfl (Or.inr zs52) (k := ((0 : Int32)).toInt.toNat) (Int.toNat_of_nonneg hb2.1).symm (by rw [hlen]; omega) d1_197 (fun h67 K67 R67 => ?_)
      exact J59 _ _ _ _ _ _ rfl rfl rfl rfl rfl (by rw [stb_len]; exact hlen) K67 R67
    · skip
      refine Goes.if1 A d1_161 (by decide) (pc' := 168) (by decide) (fun hc68 => ?_) (fun hc => absurd (cP_t (by decide)) hc)
      refine Goes.blk A _ b1_168_3 (pc' := 173) (Ls' := #[.val (.ref cg), .val (.ref gr), .val (.int (3 : Int32)), .val .null, .val (.ref fl), .val (.int (0 : Int32)), .val (.int (1 : Int32)), .val (.int g3)]) (st' := [(.int (1 : Int32)), (.ref fl), (.int (1 : Int32)), (.ref fl), (.int (0 : Int32)), (.ref b54)]) rfl ?_
      refine Goes.iaload A R57 (i := 7) rfl (k := 1) (by decide) rfl d1_173 ?_
      refine Goes.blk A _ b1_174_3 (pc' := 177) (Ls' := #[.val (.ref cg), .val (.ref gr), .val (.int (3 : Int32)), .val .null, .val (.ref fl), .val (.int (0 : Int32)), .val (.int (1 : Int32)), .val (.int g3)]) (st' := [(.int ((x3_0 + (0 : Int32)) + (1 : Int32))), (.int (1 : Int32)), (.ref fl), (.int (x3_0 + (0 : Int32))), (.int (0 : Int32)), (.ref b54)]) rfl ?_
      refine Goes.iastore A R57 K57 (i := 7) rfl (Or.inr (Nat.le_trans K56.1 zt57_0)) (k := 1) (by decide) (Nat.le_of_ble_eq_true rfl) d1_177 (fun h69 K69 R69 => ?_)
      replace R69 : Rep Z a0 n0 h69 GB [(cg, true, .inl ("com/example/stillpoint/stillpoint/spec/CallGroups", (CGs (.ref bgA) (.ref b5) (.ref b54) (.ref b1) .null .null .null))), (gr, true, .inr (.int, [(.int (1 : Int32)), (.int g1), (.int g2), (.int g3)])), (b1, true, .inl ("java/util/BitSet", (BSs (.ref wd) (.int (0 : Int32)) (.int (0 : Int32))))), (wd, true, .inr (.long, [(.long (0 : Int64))])), (b5, true, .inr (.int, [(.int (0 : Int32)), (.int (x3_0 + (0 : Int32))), (.int (x3_1 + (x3_0 + (0 : Int32)))), (.int (x3_2 + (x3_1 + (x3_0 + (0 : Int32)))))])), (bgA, true, .inr (.int, (List.replicate (T3 (1 : Int32) g1 g2 g3).toInt.toNat (Value.int (0 : Int32))))), (b54, true, .inr (.int, [(.int (0 : Int32)), (.int (0 : Int32)), (.int (0 : Int32)), (.int (0 : Int32))])), (fl, true, .inr (.int, [(.int (0 : Int32)), (.int ((x3_0 + (0 : Int32)) + (1 : Int32))), (.int (x3_1 + (x3_0 + (0 : Int32))))]))] := R69
      refine Goes.iastore A R69 K69 (i := 6) rfl (Or.inr zs55) (k := 0) (by decide) (Nat.le_of_ble_eq_true rfl) d1_178 (fun h70 K70 R70 => ?_)
      replace R70 : Rep Z a0 n0 h70 GB [(cg, true, .inl ("com/example/stillpoint/stillpoint/spec/CallGroups", (CGs (.ref bgA) (.ref b5) (.ref b54) (.ref b1) .null .null .null))), (gr, true, .inr (.int, [(.int (1 : Int32)), (.int g1), (.int g2), (.int g3)])), (b1, true, .inl ("java/util/BitSet", (BSs (.ref wd) (.int (0 : Int32)) (.int (0 : Int32))))), (wd, true, .inr (.long, [(.long (0 : Int64))])), (b5, true, .inr (.int, [(.int (0 : Int32)), (.int (x3_0 + (0 : Int32))), (.int (x3_1 + (x3_0 + (0 : Int32)))), (.int (x3_2 + (x3_1 + (x3_0 + (0 : Int32)))))])), (bgA, true, .inr (.int, (List.replicate (T3 (1 : Int32) g1 g2 g3).toInt.toNat (Value.int (0 : Int32))))), (b54, true, .inr (.int, [(.int (x3_0 + (0 : Int32))), (.int (0 : Int32)), (.int (0 : Int32)), (.int (0 : Int32))])), (fl, true, .inr (.int, [(.int (0 : Int32)), (.int ((x3_0 + (0 : Int32)) + (1 : Int32))), (.int (x3_1 + (x3_0 + (0 : Int32))))]))] := R70
      refine Goes.blk A _ b1_179_1 (pc' := 181) (Ls' := #[.val (.ref cg), .val (.ref gr), .val (.int (3 : Int32)), .val .null, .val (.ref fl), .val (.int (0 : Int32)), .val (.int (1 : Int32)), .val (.int g3)]) (st' := [(.int (1 : Int32))]) rfl ?_
      refine Goes.if1 A d1_181 (by decide) (pc' := 198) (by decide) (fun hc => absurd hc (cP_f (by decide))) (fun hc71 => ?_)
      refine Goes.blk A _ b1_184_1 (pc' := 185) (Ls' := #[.val (.ref cg), .val (.ref gr), .val (.int (3 : Int32)), .val .null, .val (.ref fl), .val (.int (0 : Int32)), .val (.int (1 : Int32)), .val (.int g3)]) (st' := [(.ref cg)]) rfl ?_
      refine Goes.getF A (hw _ (List.mem_of_getElem? (i := 36) rfl)) Via.refl (R70.fld (i := 0) (j := 0) rfl rfl) d1_185 ?_
      refine Goes.blk A _ b1_188_1 (pc' := 189) (Ls' := #[.val (.ref cg), .val (.ref gr), .val (.int (3 : Int32)), .val .null, .val (.ref fl), .val (.int (0 : Int32)), .val (.int (1 : Int32)), .val (.int g3)]) (st' := [(.ref cg), (.ref bgA)]) rfl ?_
      refine Goes.getF A (hw _ (List.mem_of_getElem? (i := 38) rfl)) Via.refl (R70.fld (i := 0) (j := 2) rfl rfl) d1_189 ?_
      refine Goes.blk A _ b1_192_1 (pc' := 194) (Ls' := #[.val (.ref cg), .val (.ref gr), .val (.int (3 : Int32)), .val .null, .val (.ref fl), .val (.int (0 : Int32)), .val (.int (1 : Int32)), .val (.int g3)]) (st' := [(.int (0 : Int32)), (.ref b54), (.ref bgA)]) rfl ?_
      refine Goes.iaload A R70 (i := 6) rfl (k := 0) (by decide) rfl d1_194 ?_
      refine Goes.blk A _ b1_195_1 (pc' := 197) (Ls' := #[.val (.ref cg), .val (.ref gr), .val (.int (3 : Int32)), .val .null, .val (.ref fl), .val (.int (0 : Int32)), .val (.int (1 : Int32)), .val (.int g3)]) (st' := [(.int (0 : Int32)), (.int (x3_0 + (0 : Int32))), (.ref bgA)]) rfl ?_
      have hb2 : 0 ≤ ((x3_0 + (0 : Int32))).toInt ∧ ((x3_0 + (0 : Int32))).toInt < (T3 1 g1 g2 g3).toInt := by have q9 := hb (by decide); subst_vars; exact q9
      refine Goes.iastore A R70 K70 (i := 5) rfl (Or.inr zs52) (k := ((x3_0 + (0 : Int32))).toInt.toNat) (Int.toNat_of_nonneg hb2.1).symm (by rw [hlen]; omega) d1_197 (fun h72 K72 R72 => ?_)
      exact J59 _ _ _ _ _ _ rfl rfl rfl rfl rfl (by rw [stb_len]; exact hlen) K72 R72
    · skip
      refine Goes.if1 A d1_161 (by decide) (pc' := 168) (by decide) (fun hc73 => ?_) (fun hc => absurd (cP_t (by decide)) hc)
      refine Goes.blk A _ b1_168_3 (pc' := 173) (Ls' := #[.val (.ref cg), .val (.ref gr), .val (.int (3 : Int32)), .val .null, .val (.ref fl), .val (.int (0 : Int32)), .val (.int (2 : Int32)), .val (.int g3)]) (st' := [(.int (2 : Int32)), (.ref fl), (.int (2 : Int32)), (.ref fl), (.int (0 : Int32)), (.ref b54)]) rfl ?_
      refine Goes.iaload A R57 (i := 7) rfl (k := 2) (by decide) rfl d1_173 ?_
      refine Goes.blk A _ b1_174_3 (pc' := 177) (Ls' := #[.val (.ref cg), .val (.ref gr), .val (.int (3 : Int32)), .val .null, .val (.ref fl), .val (.int (0 : Int32)), .val (.int (2 : Int32)), .val (.int g3)]) (st' := [(.int ((x3_1 + (x3_0 + (0 : Int32))) + (1 : Int32))), (.int (2 : Int32)), (.ref fl), (.int (x3_1 + (x3_0 + (0 : Int32)))), (.int (0 : Int32)), (.ref b54)]) rfl ?_
      refine Goes.iastore A R57 K57 (i := 7) rfl (Or.inr (Nat.le_trans K56.1 zt57_0)) (k := 2) (by decide) (Nat.le_of_ble_eq_true rfl) d1_177 (fun h74 K74 R74 => ?_)
      replace R74 : Rep Z a0 n0 h74 GB [(cg, true, .inl ("com/example/stillpoint/stillpoint/spec/CallGroups", (CGs (.ref bgA) (.ref b5) (.ref b54) (.ref b1) .null .null .null))), (gr, true, .inr (.int, [(.int (2 : Int32)), (.int g1), (.int g2), (.int g3)])), (b1, true, .inl ("java/util/BitSet", (BSs (.ref wd) (.int (0 : Int32)) (.int (0 : Int32))))), (wd, true, .inr (.long, [(.long (0 : Int64))])), (b5, true, .inr (.int, [(.int (0 : Int32)), (.int (x3_0 + (0 : Int32))), (.int (x3_1 + (x3_0 + (0 : Int32)))), (.int (x3_2 + (x3_1 + (x3_0 + (0 : Int32)))))])), (bgA, true, .inr (.int, (List.replicate (T3 (2 : Int32) g1 g2 g3).toInt.toNat (Value.int (0 : Int32))))), (b54, true, .inr (.int, [(.int (0 : Int32)), (.int (0 : Int32)), (.int (0 : Int32)), (.int (0 : Int32))])), (fl, true, .inr (.int, [(.int (0 : Int32)), (.int (x3_0 + (0 : Int32))), (.int ((x3_1 + (x3_0 + (0 : Int32))) + (1 : Int32)))]))] := R74
      refine Goes.iastore A R74 K74 (i := 6) rfl (Or.inr zs55) (k := 0) (by decide) (Nat.le_of_ble_eq_true rfl) d1_178 (fun h75 K75 R75 => ?_)
      replace R75 : Rep Z a0 n0 h75 GB [(cg, true, .inl ("com/example/stillpoint/stillpoint/spec/CallGroups", (CGs (.ref bgA) (.ref b5) (.ref b54) (.ref b1) .null .null .null))), (gr, true, .inr (.int, [(.int (2 : Int32)), (.int g1), (.int g2), (.int g3)])), (b1, true, .inl ("java/util/BitSet", (BSs (.ref wd) (.int (0 : Int32)) (.int (0 : Int32))))), (wd, true, .inr (.long, [(.long (0 : Int64))])), (b5, true, .inr (.int, [(.int (0 : Int32)), (.int (x3_0 + (0 : Int32))), (.int (x3_1 + (x3_0 + (0 : Int32)))), (.int (x3_2 + (x3_1 + (x3_0 + (0 : Int32)))))])), (bgA, true, .inr (.int, (List.replicate (T3 (2 : Int32) g1 g2 g3).toInt.toNat (Value.int (0 : Int32))))), (b54, true, .inr (.int, [(.int (x3_1 + (x3_0 + (0 : Int32)))), (.int (0 : Int32)), (.int (0 : Int32)), (.int (0 : Int32))])), (fl, true, .inr (.int, [(.int (0 : Int32)), (.int (x3_0 + (0 : Int32))), (.int ((x3_1 + (x3_0 + (0 : Int32))) + (1 : Int32)))]))] := R75
      refine Goes.blk A _ b1_179_1 (pc' := 181) (Ls' := #[.val (.ref cg), .val (.ref gr), .val (.int (3 : Int32)), .val .null, .val (.ref fl), .val (.int (0 : Int32)), .val (.int (2 : Int32)), .val (.int g3)]) (st' := [(.int (2 : Int32))]) rfl ?_
      refine Goes.if1 A d1_181 (by decide) (pc' := 198) (by decide) (fun hc => absurd hc (cP_f (by decide))) (fun hc76 => ?_)
      refine Goes.blk A _ b1_184_1 (pc' := 185) (Ls' := #[.val (.ref cg), .val (.ref gr), .val (.int (3 : Int32)), .val .null, .val (.ref fl), .val (.int (0 : Int32)), .val (.int (2 : Int32)), .val (.int g3)]) (st' := [(.ref cg)]) rfl ?_
      refine Goes.getF A (hw _ (List.mem_of_getElem? (i := 36) rfl)) Via.refl (R75.fld (i := 0) (j := 0) rfl rfl) d1_185 ?_
      refine Goes.blk A _ b1_188_1 (pc' := 189) (Ls' := #[.val (.ref cg), .val (.ref gr), .val (.int (3 : Int32)), .val .null, .val (.ref fl), .val (.int (0 : Int32)), .val (.int (2 : Int32)), .val (.int g3)]) (st' := [(.ref cg), (.ref bgA)]) rfl ?_
      refine Goes.getF A (hw _ (List.mem_of_getElem? (i := 38) rfl)) Via.refl (R75.fld (i := 0) (j := 2) rfl rfl) d1_189 ?_
      refine Goes.blk A _ b1_192_1 (pc' := 194) (Ls' := #[.val (.ref cg), .val (.ref gr), .val (.int (3 : Int32)), .val .null, .val (.ref fl), .val (.int (0 : Int32)), .val (.int (2 : Int32)), .val (.int g3)]) (st' := [(.int (0 : Int32)), (.ref b54), (.ref bgA)]) rfl ?_
      refine Goes.iaload A R75 (i := 6) rfl (k := 0) (by decide) rfl d1_194 ?_
      refine Goes.blk A _ b1_195_1 (pc' := 197) (Ls' := #[.val (.ref cg), .val (.ref gr), .val (.int (3 : Int32)), .val .null, .val (.ref fl), .val (.int (0 : Int32)), .val (.int (2 : Int32)), .val (.int g3)]) (st' := [(.int (0 : Int32)), (.int (x3_1 + (x3_0 + (0 : Int32)))), (.ref bgA)]) rfl ?_
      have hb2 : 0 ≤ ((x3_1 + (x3_0 + (0 : Int32)))).toInt ∧ ((x3_1 + (x3_0 + (0 : Int32)))).toInt < (T3 2 g1 g2 g3).toInt := by have q9 := hb (by decide); subst_vars; exact q9
      refine Goes.iastore A R75 K75 (i := 5) rfl (Or.inr zs52) (k := ((x3_1 + (x3_0 + (0 : Int32)))).toInt.toNat) (Int.toNat_of_nonneg hb2.1).symm (by rw [hlen]; omega) d1_197 (fun h77 K77 R77 => ?_)
      exact J59 _ _ _ _ _ _ rfl rfl rfl rfl rfl (by rw [stb_len]; exact hlen) K77 R77
  intro q0 y0_0 y0_1 y0_2 bl0 h59 e59_0 e59_1 e59_2 e59_3 e59_4 e59_5 K59 R59
  have hl0 := e59_5
  refine Goes.blk A _ b1_198_1 (pc' := 201) (Ls' := #[.val (.ref cg), .val (.ref gr), .val (.int (3 : Int32)), .val .null, .val (.ref fl), .val (.int ((0 : Int32) + (1 : Int32))), .val (.int g0), .val (.int g3)]) (st' := []) rfl ?_
  refine Goes.jump A d1_201 (by decide) (pc' := 140) (by decide) ?_
  refine Goes.blk A _ b1_140_2 (pc' := 143) (Ls' := #[.val (.ref cg), .val (.ref gr), .val (.int (3 : Int32)), .val .null, .val (.ref fl), .val (.int ((0 : Int32) + (1 : Int32))), .val (.int g0), .val (.int g3)]) (st' := [(.ref gr), (.int ((0 : Int32) + (1 : Int32)))]) rfl ?_
  refine Goes.alen A R59 (i := 1) rfl (z := 4) (by rfl) d1_143 ?_
  refine Goes.if2 A d1_144 (by decide) (pc' := 204) (by decide) (fun hc => absurd hc (cP_f (by decide))) (fun hc78 => ?_)
  refine Goes.blk A _ b1_147_2 (pc' := 150) (Ls' := #[.val (.ref cg), .val (.ref gr), .val (.int (3 : Int32)), .val .null, .val (.ref fl), .val (.int ((0 : Int32) + (1 : Int32))), .val (.int g0), .val (.int g3)]) (st' := [(.int ((0 : Int32) + (1 : Int32))), (.ref gr)]) rfl ?_
  refine Goes.iaload A R59 (i := 1) rfl (k := 1) (by decide) rfl d1_150 ?_
  refine Goes.blk A _ b1_151_2 (pc' := 154) (Ls' := #[.val (.ref cg), .val (.ref gr), .val (.int (3 : Int32)), .val .null, .val (.ref fl), .val (.int ((0 : Int32) + (1 : Int32))), .val (.int g1), .val (.int g3)]) (st' := [(.ref cg)]) rfl ?_
  refine Goes.getF A (hw _ (List.mem_of_getElem? (i := 38) rfl)) Via.refl (R59.fld (i := 0) (j := 2) rfl rfl) d1_154 ?_
  refine Goes.blk A _ b1_157_2 (pc' := 161) (Ls' := #[.val (.ref cg), .val (.ref gr), .val (.int (3 : Int32)), .val .null, .val (.ref fl), .val (.int ((0 : Int32) + (1 : Int32))), .val (.int g1), .val (.int g3)]) (st' := [(.int g1), (.int ((0 : Int32) + (1 : Int32))), (.ref b54)]) rfl ?_
  suffices J79 : ∀ (q1 y1_0 y1_1 y1_2 : Int32) (bl1 : List Value) (h79 : Heap), q1 = plc y0_0 y0_1 y0_2 g1 → y1_0 = bmp 0 y0_0 g1 → y1_1 = bmp 1 y0_1 g1 → y1_2 = bmp 2 y0_2 g1 → bl1 = stb bl0 g1 q1 1 → (bl1).length = (T3 g0 g1 g2 g3).toInt.toNat → Keep h h79 [cg] → Rep Z a0 n0 h79 GB [(cg, true, .inl ("com/example/stillpoint/stillpoint/spec/CallGroups", (CGs (.ref bgA) (.ref b5) (.ref b54) (.ref b1) .null .null .null))), (gr, true, .inr (.int, [(.int g0), (.int g1), (.int g2), (.int g3)])), (b1, true, .inl ("java/util/BitSet", (BSs (.ref wd) (.int (0 : Int32)) (.int (0 : Int32))))), (wd, true, .inr (.long, [(.long (0 : Int64))])), (b5, true, .inr (.int, [(.int (0 : Int32)), (.int (x3_0 + (0 : Int32))), (.int (x3_1 + (x3_0 + (0 : Int32)))), (.int (x3_2 + (x3_1 + (x3_0 + (0 : Int32)))))])), (bgA, true, .inr (.int, bl1)), (b54, true, .inr (.int, [(.int q0), (.int q1), (.int (0 : Int32)), (.int (0 : Int32))])), (fl, true, .inr (.int, [(.int y1_0), (.int y1_1), (.int y1_2)]))] → Goes p l e ({ frames := 3, cells := 6, slots := 19, locals := 49 } : Room) s m #[(.ref cg), (.ref gr), (.int (3 : Int32)), .null] below meth c n0 (fun v h' => ∃ bs wd st bg po fl u w f0 f1 f2, (u = 0 ∨ u = 1) ∧ v = none ∧ h.size ≤ bs ∧ h.size ≤ wd ∧ h.size ≤ st ∧ h.size ≤ bg ∧ h.size ≤ po ∧ h.size ≤ fl ∧ Keep h h' [cg] ∧ Rep Z a0 n0 h' GB [(cg, true, .inl ("com/example/stillpoint/stillpoint/spec/CallGroups", (CGs (.ref bg) (.ref st) (.ref po) (.ref bs) .null .null .null))), (gr, true, .inr (.int, [(.int g0), (.int g1), (.int g2), (.int g3)])), (bs, true, .inl ("java/util/BitSet", (BSs (.ref wd) (.int u) (.int (0 : Int32))))), (wd, true, .inr (.long, [(.long w)])), (st, true, .inr (.int, [(.int (0 : Int32)), (.int (T1 g0 g1 g2 g3)), (.int (T2 g0 g1 g2 g3)), (.int (T3 g0 g1 g2 g3))])), (bg, true, .inr (.int, (BGF g0 g1 g2 g3))), (po, true, .inr (.int, [(.int (P0 g0 g1 g2 g3)), (.int (P1 g0 g1 g2 g3)), (.int (P2 g0 g1 g2 g3)), (.int (P3 g0 g1 g2 g3))])), (fl, true, .inr (.int, [(.int f0), (.int f1), (.int f2)]))]) h79 6 19 198 #[.val (.ref cg), .val (.ref gr), .val (.int (3 : Int32)), .val .null, .val (.ref fl), .val (.int ((0 : Int32) + (1 : Int32))), .val (.int g1), .val (.int g3)] [] by
    have hlen : (bl0).length = (T3 g0 g1 g2 g3).toInt.toNat := hl0
    have hb := okP_of hB1
    rcases hg1 with rfl | rfl | rfl | rfl
    · skip
      refine Goes.if1 A d1_161 (by decide) (pc' := 168) (by decide) (fun hc => absurd hc (cP_f (by decide))) (fun hc80 => ?_)
      refine Goes.blk A _ b1_164_1 (pc' := 165) (Ls' := #[.val (.ref cg), .val (.ref gr), .val (.int (3 : Int32)), .val .null, .val (.ref fl), .val (.int ((0 : Int32) + (1 : Int32))), .val (.int (-1 : Int32)), .val (.int g3)]) (st' := [(.int (-1 : Int32)), (.int ((0 : Int32) + (1 : Int32))), (.ref b54)]) rfl ?_
      refine Goes.jump A d1_165 (by decide) (pc' := 178) (by decide) ?_
      refine Goes.iastore A R59 K59 (i := 6) rfl (Or.inr zs55) (k := 1) (by decide) (Nat.le_of_ble_eq_true rfl) d1_178 (fun h81 K81 R81 => ?_)
      replace R81 : Rep Z a0 n0 h81 GB [(cg, true, .inl ("com/example/stillpoint/stillpoint/spec/CallGroups", (CGs (.ref bgA) (.ref b5) (.ref b54) (.ref b1) .null .null .null))), (gr, true, .inr (.int, [(.int g0), (.int (-1 : Int32)), (.int g2), (.int g3)])), (b1, true, .inl ("java/util/BitSet", (BSs (.ref wd) (.int (0 : Int32)) (.int (0 : Int32))))), (wd, true, .inr (.long, [(.long (0 : Int64))])), (b5, true, .inr (.int, [(.int (0 : Int32)), (.int (x3_0 + (0 : Int32))), (.int (x3_1 + (x3_0 + (0 : Int32)))), (.int (x3_2 + (x3_1 + (x3_0 + (0 : Int32)))))])), (bgA, true, .inr (.int, bl0)), (b54, true, .inr (.int, [(.int q0), (.int (-1 : Int32)), (.int (0 : Int32)), (.int (0 : Int32))])), (fl, true, .inr (.int, [(.int y0_0), (.int y0_1), (.int y0_2)]))] := R81
      refine Goes.blk A _ b1_179_1 (pc' := 181) (Ls' := #[.val (.ref cg), .val (.ref gr), .val (.int (3 : Int32)), .val .null, .val (.ref fl), .val (.int ((0 : Int32) + (1 : Int32))), .val (.int (-1 : Int32)), .val (.int g3)]) (st' := [(.int (-1 : Int32))]) rfl ?_
      refine Goes.if1 A d1_181 (by decide) (pc' := 198) (by decide) (fun hc82 => ?_) (fun hc => absurd (cP_t (by decide)) hc)
      exact J79 _ _ _ _ _ _ rfl rfl rfl rfl rfl (by rw [stb_len]; exact hlen) K81 R81
    · skip
      refine Goes.if1 A d1_161 (by decide) (pc' := 168) (by decide) (fun hc83 => ?_) (fun hc => absurd (cP_t (by decide)) hc)
      refine Goes.blk A _ b1_168_3 (pc' := 173) (Ls' := #[.val (.ref cg), .val (.ref gr), .val (.int (3 : Int32)), .val .null, .val (.ref fl), .val (.int ((0 : Int32) + (1 : Int32))), .val (.int (0 : Int32)), .val (.int g3)]) (st' := [(.int (0 : Int32)), (.ref fl), (.int (0 : Int32)), (.ref fl), (.int ((0 : Int32) + (1 : Int32))), (.ref b54)]) rfl ?_
      refine Goes.iaload A R59 (i := 7) rfl (k := 0) (by decide) rfl d1_173 ?_
      refine Goes.blk A _ b1_174_3 (pc' := 177) (Ls' := #[.val (.ref cg), .val (.ref gr), .val (.int (3 : Int32)), .val .null, .val (.ref fl), .val (.int ((0 : Int32) + (1 : Int32))), .val (.int (0 : Int32)), .val (.int g3)]) (st' := [(.int (y0_0 + (1 : Int32))), (.int (0 : Int32)), (.ref fl), (.int y0_0), (.int ((0 : Int32) + (1 : Int32))), (.ref b54)]) rfl ?_
      refine Goes.iastore A R59 K59 (i := 7) rfl (Or.inr (Nat.le_trans K56.1 zt57_0)) (k := 0) (by decide) (Nat.le_of_ble_eq_true rfl) d1_177 (fun h84 K84 R84 => ?_)
      replace R84 : Rep Z a0 n0 h84 GB [(cg, true, .inl ("com/example/stillpoint/stillpoint/spec/CallGroups", (CGs (.ref bgA) (.ref b5) (.ref b54) (.ref b1) .null .null .null))), (gr, true, .inr (.int, [(.int g0), (.int (0 : Int32)), (.int g2), (.int g3)])), (b1, true, .inl ("java/util/BitSet", (BSs (.ref wd) (.int (0 : Int32)) (.int (0 : Int32))))), (wd, true, .inr (.long, [(.long (0 : Int64))])), (b5, true, .inr (.int, [(.int (0 : Int32)), (.int (x3_0 + (0 : Int32))), (.int (x3_1 + (x3_0 + (0 : Int32)))), (.int (x3_2 + (x3_1 + (x3_0 + (0 : Int32)))))])), (bgA, true, .inr (.int, bl0)), (b54, true, .inr (.int, [(.int q0), (.int (0 : Int32)), (.int (0 : Int32)), (.int (0 : Int32))])), (fl, true, .inr (.int, [(.int (y0_0 + (1 : Int32))), (.int y0_1), (.int y0_2)]))] := R84
      refine Goes.iastore A R84 K84 (i := 6) rfl (Or.inr zs55) (k := 1) (by decide) (Nat.le_of_ble_eq_true rfl) d1_178 (fun h85 K85 R85 => ?_)
      replace R85 : Rep Z a0 n0 h85 GB [(cg, true, .inl ("com/example/stillpoint/stillpoint/spec/CallGroups", (CGs (.ref bgA) (.ref b5) (.ref b54) (.ref b1) .null .null .null))), (gr, true, .inr (.int, [(.int g0), (.int (0 : Int32)), (.int g2), (.int g3)])), (b1, true, .inl ("java/util/BitSet", (BSs (.ref wd) (.int (0 : Int32)) (.int (0 : Int32))))), (wd, true, .inr (.long, [(.long (0 : Int64))])), (b5, true, .inr (.int, [(.int (0 : Int32)), (.int (x3_0 + (0 : Int32))), (.int (x3_1 + (x3_0 + (0 : Int32)))), (.int (x3_2 + (x3_1 + (x3_0 + (0 : Int32)))))])), (bgA, true, .inr (.int, bl0)), (b54, true, .inr (.int, [(.int q0), (.int y0_0), (.int (0 : Int32)), (.int (0 : Int32))])), (fl, true, .inr (.int, [(.int (y0_0 + (1 : Int32))), (.int y0_1), (.int y0_2)]))] := R85
      refine Goes.blk A _ b1_179_1 (pc' := 181) (Ls' := #[.val (.ref cg), .val (.ref gr), .val (.int (3 : Int32)), .val .null, .val (.ref fl), .val (.int ((0 : Int32) + (1 : Int32))), .val (.int (0 : Int32)), .val (.int g3)]) (st' := [(.int (0 : Int32))]) rfl ?_
      refine Goes.if1 A d1_181 (by decide) (pc' := 198) (by decide) (fun hc => absurd hc (cP_f (by decide))) (fun hc86 => ?_)
      refine Goes.blk A _ b1_184_1 (pc' := 185) (Ls' := #[.val (.ref cg), .val (.ref gr), .val (.int (3 : Int32)), .val .null, .val (.ref fl), .val (.int ((0 : Int32) + (1 : Int32))), .val (.int (0 : Int32)), .val (.int g3)]) (st' := [(.ref cg)]) rfl ?_
      refine Goes.getF A (hw _ (List.mem_of_getElem? (i := 36) rfl)) Via.refl (R85.fld (i := 0) (j := 0) rfl rfl) d1_185 ?_
      refine Goes.blk A _ b1_188_1 (pc' := 189) (Ls' := #[.val (.ref cg), .val (.ref gr), .val (.int (3 : Int32)), .val .null, .val (.ref fl), .val (.int ((0 : Int32) + (1 : Int32))), .val (.int (0 : Int32)), .val (.int g3)]) (st' := [(.ref cg), (.ref bgA)]) rfl ?_
      refine Goes.getF A (hw _ (List.mem_of_getElem? (i := 38) rfl)) Via.refl (R85.fld (i := 0) (j := 2) rfl rfl) d1_189 ?_
      refine Goes.blk A _ b1_192_1 (pc' := 194) (Ls' := #[.val (.ref cg), .val (.ref gr), .val (.int (3 : Int32)), .val .null, .val (.ref fl), .val (.int ((0 : Int32) + (1 : Int32))), .val (.int (0 : Int32)), .val (.int g3)]) (st' := [(.int ((0 : Int32) + (1 : Int32))), (.ref b54), (.ref bgA)]) rfl ?_
      refine Goes.iaload A R85 (i := 6) rfl (k := 1) (by decide) rfl d1_194 ?_
      refine Goes.blk A _ b1_195_1 (pc' := 197) (Ls' := #[.val (.ref cg), .val (.ref gr), .val (.int (3 : Int32)), .val .null, .val (.ref fl), .val (.int ((0 : Int32) + (1 : Int32))), .val (.int (0 : Int32)), .val (.int g3)]) (st' := [(.int ((0 : Int32) + (1 : Int32))), (.int y0_0), (.ref bgA)]) rfl ?_
      have hb2 : 0 ≤ (y0_0).toInt ∧ (y0_0).toInt < (T3 g0 0 g2 g3).toInt := by have q9 := hb (by decide); subst_vars; exact q9
      refine Goes.iastore A R85 K85 (i := 5) rfl (Or.inr zs52) (k := (y0_0).toInt.toNat) (Int.toNat_of_nonneg hb2.1).symm (by rw [hlen]; omega) d1_197 (fun h87 K87 R87 => ?_)
      exact J79 _ _ _ _ _ _ rfl rfl rfl rfl rfl (by rw [stb_len]; exact hlen) K87 R87
    · skip
      refine Goes.if1 A d1_161 (by decide) (pc' := 168) (by decide) (fun hc88 => ?_) (fun hc => absurd (cP_t (by decide)) hc)
      refine Goes.blk A _ b1_168_3 (pc' := 173) (Ls' := #[.val (.ref cg), .val (.ref gr), .val (.int (3 : Int32)), .val .null, .val (.ref fl), .val (.int ((0 : Int32) + (1 : Int32))), .val (.int (1 : Int32)), .val (.int g3)]) (st' := [(.int (1 : Int32)), (.ref fl), (.int (1 : Int32)), (.ref fl), (.int ((0 : Int32) + (1 : Int32))), (.ref b54)]) rfl ?_
      refine Goes.iaload A R59 (i := 7) rfl (k := 1) (by decide) rfl d1_173 ?_
      refine Goes.blk A _ b1_174_3 (pc' := 177) (Ls' := #[.val (.ref cg), .val (.ref gr), .val (.int (3 : Int32)), .val .null, .val (.ref fl), .val (.int ((0 : Int32) + (1 : Int32))), .val (.int (1 : Int32)), .val (.int g3)]) (st' := [(.int (y0_1 + (1 : Int32))), (.int (1 : Int32)), (.ref fl), (.int y0_1), (.int ((0 : Int32) + (1 : Int32))), (.ref b54)]) rfl ?_
      refine Goes.iastore A R59 K59 (i := 7) rfl (Or.inr (Nat.le_trans K56.1 zt57_0)) (k := 1) (by decide) (Nat.le_of_ble_eq_true rfl) d1_177 (fun h89 K89 R89 => ?_)
      replace R89 : Rep Z a0 n0 h89 GB [(cg, true, .inl ("com/example/stillpoint/stillpoint/spec/CallGroups", (CGs (.ref bgA) (.ref b5) (.ref b54) (.ref b1) .null .null .null))), (gr, true, .inr (.int, [(.int g0), (.int (1 : Int32)), (.int g2), (.int g3)])), (b1, true, .inl ("java/util/BitSet", (BSs (.ref wd) (.int (0 : Int32)) (.int (0 : Int32))))), (wd, true, .inr (.long, [(.long (0 : Int64))])), (b5, true, .inr (.int, [(.int (0 : Int32)), (.int (x3_0 + (0 : Int32))), (.int (x3_1 + (x3_0 + (0 : Int32)))), (.int (x3_2 + (x3_1 + (x3_0 + (0 : Int32)))))])), (bgA, true, .inr (.int, bl0)), (b54, true, .inr (.int, [(.int q0), (.int (0 : Int32)), (.int (0 : Int32)), (.int (0 : Int32))])), (fl, true, .inr (.int, [(.int y0_0), (.int (y0_1 + (1 : Int32))), (.int y0_2)]))] := R89
      refine Goes.iastore A R89 K89 (i := 6) rfl (Or.inr zs55) (k := 1) (by decide) (Nat.le_of_ble_eq_true rfl) d1_178 (fun h90 K90 R90 => ?_)
      replace R90 : Rep Z a0 n0 h90 GB [(cg, true, .inl ("com/example/stillpoint/stillpoint/spec/CallGroups", (CGs (.ref bgA) (.ref b5) (.ref b54) (.ref b1) .null .null .null))), (gr, true, .inr (.int, [(.int g0), (.int (1 : Int32)), (.int g2), (.int g3)])), (b1, true, .inl ("java/util/BitSet", (BSs (.ref wd) (.int (0 : Int32)) (.int (0 : Int32))))), (wd, true, .inr (.long, [(.long (0 : Int64))])), (b5, true, .inr (.int, [(.int (0 : Int32)), (.int (x3_0 + (0 : Int32))), (.int (x3_1 + (x3_0 + (0 : Int32)))), (.int (x3_2 + (x3_1 + (x3_0 + (0 : Int32)))))])), (bgA, true, .inr (.int, bl0)), (b54, true, .inr (.int, [(.int q0), (.int y0_1), (.int (0 : Int32)), (.int (0 : Int32))])), (fl, true, .inr (.int, [(.int y0_0), (.int (y0_1 + (1 : Int32))), (.int y0_2)]))] := R90
      refine Goes.blk A _ b1_179_1 (pc' := 181) (Ls' := #[.val (.ref cg), .val (.ref gr), .val (.int (3 : Int32)), .val .null, .val (.ref fl), .val (.int ((0 : Int32) + (1 : Int32))), .val (.int (1 : Int32)), .val (.int g3)]) (st' := [(.int (1 : Int32))]) rfl ?_
      refine Goes.if1 A d1_181 (by decide) (pc' := 198) (by decide) (fun hc => absurd hc (cP_f (by decide))) (fun hc91 => ?_)
      refine Goes.blk A _ b1_184_1 (pc' := 185) (Ls' := #[.val (.ref cg), .val (.ref gr), .val (.int (3 : Int32)), .val .null, .val (.ref fl), .val (.int ((0 : Int32) + (1 : Int32))), .val (.int (1 : Int32)), .val (.int g3)]) (st' := [(.ref cg)]) rfl ?_
      refine Goes.getF A (hw _ (List.mem_of_getElem? (i := 36) rfl)) Via.refl (R90.fld (i := 0) (j := 0) rfl rfl) d1_185 ?_
      refine Goes.blk A _ b1_188_1 (pc' := 189) (Ls' := #[.val (.ref cg), .val (.ref gr), .val (.int (3 : Int32)), .val .null, .val (.ref fl), .val (.int ((0 : Int32) + (1 : Int32))), .val (.int (1 : Int32)), .val (.int g3)]) (st' := [(.ref cg), (.ref bgA)]) rfl ?_
      refine Goes.getF A (hw _ (List.mem_of_getElem? (i := 38) rfl)) Via.refl (R90.fld (i := 0) (j := 2) rfl rfl) d1_189 ?_
      refine Goes.blk A _ b1_192_1 (pc' := 194) (Ls' := #[.val (.ref cg), .val (.ref gr), .val (.int (3 : Int32)), .val .null, .val (.ref fl), .val (.int ((0 : Int32) + (1 : Int32))), .val (.int (1 : Int32)), .val (.int g3)]) (st' := [(.int ((0 : Int32) + (1 : Int32))), (.ref b54), (.ref bgA)]) rfl ?_
      refine Goes.iaload A R90 (i := 6) rfl (k := 1) (by decide) rfl d1_194 ?_
      refine Goes.blk A _ b1_195_1 (pc' := 197) (Ls' := #[.val (.ref cg), .val (.ref gr), .val (.int (3 : Int32)), .val .null, .val (.ref fl), .val (.int ((0 : Int32) + (1 : Int32))), .val (.int (1 : Int32)), .val (.int g3)]) (st' := [(.int ((0 : Int32) + (1 : Int32))), (.int y0_1), (.ref bgA)]) rfl ?_
      have hb2 : 0 ≤ (y0_1).toInt ∧ (y0_1).toInt < (T3 g0 1 g2 g3).toInt := by have q9 := hb (by decide); subst_vars; exact q9
      refine Goes.iastore A R90 K90 (i := 5) rfl (Or.inr zs52) (k := (y0_1).toInt.toNat) (Int.toNat_of_nonneg hb2.1).symm (by rw [hlen]; omega) d1_197 (fun h92 K92 R92 => ?_)
      exact J79 _ _ _ _ _ _ rfl rfl rfl rfl rfl (by rw [stb_len]; exact hlen) K92 R92
    · skip
      refine Goes.if1 A d1_161 (by decide) (pc' := 168) (by decide) (fun hc93 => ?_) (fun hc => absurd (cP_t (by decide)) hc)
      refine Goes.blk A _ b1_168_3 (pc' := 173) (Ls' := #[.val (.ref cg), .val (.ref gr), .val (.int (3 : Int32)), .val .null, .val (.ref fl), .val (.int ((0 : Int32) + (1 : Int32))), .val (.int (2 : Int32)), .val (.int g3)]) (st' := [(.int (2 : Int32)), (.ref fl), (.int (2 : Int32)), (.ref fl), (.int ((0 : Int32) + (1 : Int32))), (.ref b54)]) rfl ?_
      refine Goes.iaload A R59 (i := 7) rfl (k := 2) (by decide) rfl d1_173 ?_
      refine Goes.blk A _ b1_174_3 (pc' := 177) (Ls' := #[.val (.ref cg), .val (.ref gr), .val (.int (3 : Int32)), .val .null, .val (.ref fl), .val (.int ((0 : Int32) + (1 : Int32))), .val (.int (2 : Int32)), .val (.int g3)]) (st' := [(.int (y0_2 + (1 : Int32))), (.int (2 : Int32)), (.ref fl), (.int y0_2), (.int ((0 : Int32) + (1 : Int32))), (.ref b54)]) rfl ?_
      refine Goes.iastore A R59 K59 (i := 7) rfl (Or.inr (Nat.le_trans K56.1 zt57_0)) (k := 2) (by decide) (Nat.le_of_ble_eq_true rfl) d1_177 (fun h94 K94 R94 => ?_)
      replace R94 : Rep Z a0 n0 h94 GB [(cg, true, .inl ("com/example/stillpoint/stillpoint/spec/CallGroups", (CGs (.ref bgA) (.ref b5) (.ref b54) (.ref b1) .null .null .null))), (gr, true, .inr (.int, [(.int g0), (.int (2 : Int32)), (.int g2), (.int g3)])), (b1, true, .inl ("java/util/BitSet", (BSs (.ref wd) (.int (0 : Int32)) (.int (0 : Int32))))), (wd, true, .inr (.long, [(.long (0 : Int64))])), (b5, true, .inr (.int, [(.int (0 : Int32)), (.int (x3_0 + (0 : Int32))), (.int (x3_1 + (x3_0 + (0 : Int32)))), (.int (x3_2 + (x3_1 + (x3_0 + (0 : Int32)))))])), (bgA, true, .inr (.int, bl0)), (b54, true, .inr (.int, [(.int q0), (.int (0 : Int32)), (.int (0 : Int32)), (.int (0 : Int32))])), (fl, true, .inr (.int, [(.int y0_0), (.int y0_1), (.int (y0_2 + (1 : Int32)))]))] := R94
      refine Goes.iastore A R94 K94 (i := 6) rfl (Or.inr zs55) (k := 1) (by decide) (Nat.le_of_ble_eq_true rfl) d1_178 (fun h95 K95 R95 => ?_)
      replace R95 : Rep Z a0 n0 h95 GB [(cg, true, .inl ("com/example/stillpoint/stillpoint/spec/CallGroups", (CGs (.ref bgA) (.ref b5) (.ref b54) (.ref b1) .null .null .null))), (gr, true, .inr (.int, [(.int g0), (.int (2 : Int32)), (.int g2), (.int g3)])), (b1, true, .inl ("java/util/BitSet", (BSs (.ref wd) (.int (0 : Int32)) (.int (0 : Int32))))), (wd, true, .inr (.long, [(.long (0 : Int64))])), (b5, true, .inr (.int, [(.int (0 : Int32)), (.int (x3_0 + (0 : Int32))), (.int (x3_1 + (x3_0 + (0 : Int32)))), (.int (x3_2 + (x3_1 + (x3_0 + (0 : Int32)))))])), (bgA, true, .inr (.int, bl0)), (b54, true, .inr (.int, [(.int q0), (.int y0_2), (.int (0 : Int32)), (.int (0 : Int32))])), (fl, true, .inr (.int, [(.int y0_0), (.int y0_1), (.int (y0_2 + (1 : Int32)))]))] := R95
      refine Goes.blk A _ b1_179_1 (pc' := 181) (Ls' := #[.val (.ref cg), .val (.ref gr), .val (.int (3 : Int32)), .val .null, .val (.ref fl), .val (.int ((0 : Int32) + (1 : Int32))), .val (.int (2 : Int32)), .val (.int g3)]) (st' := [(.int (2 : Int32))]) rfl ?_
      refine Goes.if1 A d1_181 (by decide) (pc' := 198) (by decide) (fun hc => absurd hc (cP_f (by decide))) (fun hc96 => ?_)
      refine Goes.blk A _ b1_184_1 (pc' := 185) (Ls' := #[.val (.ref cg), .val (.ref gr), .val (.int (3 : Int32)), .val .null, .val (.ref fl), .val (.int ((0 : Int32) + (1 : Int32))), .val (.int (2 : Int32)), .val (.int g3)]) (st' := [(.ref cg)]) rfl ?_
      refine Goes.getF A (hw _ (List.mem_of_getElem? (i := 36) rfl)) Via.refl (R95.fld (i := 0) (j := 0) rfl rfl) d1_185 ?_
      refine Goes.blk A _ b1_188_1 (pc' := 189) (Ls' := #[.val (.ref cg), .val (.ref gr), .val (.int (3 : Int32)), .val .null, .val (.ref fl), .val (.int ((0 : Int32) + (1 : Int32))), .val (.int (2 : Int32)), .val (.int g3)]) (st' := [(.ref cg), (.ref bgA)]) rfl ?_
      refine Goes.getF A (hw _ (List.mem_of_getElem? (i := 38) rfl)) Via.refl (R95.fld (i := 0) (j := 2) rfl rfl) d1_189 ?_
      refine Goes.blk A _ b1_192_1 (pc' := 194) (Ls' := #[.val (.ref cg), .val (.ref gr), .val (.int (3 : Int32)), .val .null, .val (.ref fl), .val (.int ((0 : Int32) + (1 : Int32))), .val (.int (2 : Int32)), .val (.int g3)]) (st' := [(.int ((0 : Int32) + (1 : Int32))), (.ref b54), (.ref bgA)]) rfl ?_
      refine Goes.iaload A R95 (i := 6) rfl (k := 1) (by decide) rfl d1_194 ?_
      refine Goes.blk A _ b1_195_1 (pc' := 197) (Ls' := #[.val (.ref cg), .val (.ref gr), .val (.int (3 : Int32)), .val .null, .val (.ref fl), .val (.int ((0 : Int32) + (1 : Int32))), .val (.int (2 : Int32)), .val (.int g3)]) (st' := [(.int ((0 : Int32) + (1 : Int32))), (.int y0_2), (.ref bgA)]) rfl ?_
      have hb2 : 0 ≤ (y0_2).toInt ∧ (y0_2).toInt < (T3 g0 2 g2 g3).toInt := by have q9 := hb (by decide); subst_vars; exact q9
      refine Goes.iastore A R95 K95 (i := 5) rfl (Or.inr zs52) (k := (y0_2).toInt.toNat) (Int.toNat_of_nonneg hb2.1).symm (by rw [hlen]; omega) d1_197 (fun h97 K97 R97 => ?_)
      exact J79 _ _ _ _ _ _ rfl rfl rfl rfl rfl (by rw [stb_len]; exact hlen) K97 R97
  intro q1 y1_0 y1_1 y1_2 bl1 h79 e79_0 e79_1 e79_2 e79_3 e79_4 e79_5 K79 R79
  have hl1 := e79_5
  refine Goes.blk A _ b1_198_1 (pc' := 201) (Ls' := #[.val (.ref cg), .val (.ref gr), .val (.int (3 : Int32)), .val .null, .val (.ref fl), .val (.int (((0 : Int32) + (1 : Int32)) + (1 : Int32))), .val (.int g1), .val (.int g3)]) (st' := []) rfl ?_
  refine Goes.jump A d1_201 (by decide) (pc' := 140) (by decide) ?_
  refine Goes.blk A _ b1_140_2 (pc' := 143) (Ls' := #[.val (.ref cg), .val (.ref gr), .val (.int (3 : Int32)), .val .null, .val (.ref fl), .val (.int (((0 : Int32) + (1 : Int32)) + (1 : Int32))), .val (.int g1), .val (.int g3)]) (st' := [(.ref gr), (.int (((0 : Int32) + (1 : Int32)) + (1 : Int32)))]) rfl ?_
  refine Goes.alen A R79 (i := 1) rfl (z := 4) (by rfl) d1_143 ?_
  refine Goes.if2 A d1_144 (by decide) (pc' := 204) (by decide) (fun hc => absurd hc (cP_f (by decide))) (fun hc98 => ?_)
  refine Goes.blk A _ b1_147_2 (pc' := 150) (Ls' := #[.val (.ref cg), .val (.ref gr), .val (.int (3 : Int32)), .val .null, .val (.ref fl), .val (.int (((0 : Int32) + (1 : Int32)) + (1 : Int32))), .val (.int g1), .val (.int g3)]) (st' := [(.int (((0 : Int32) + (1 : Int32)) + (1 : Int32))), (.ref gr)]) rfl ?_
  refine Goes.iaload A R79 (i := 1) rfl (k := 2) (by decide) rfl d1_150 ?_
  refine Goes.blk A _ b1_151_2 (pc' := 154) (Ls' := #[.val (.ref cg), .val (.ref gr), .val (.int (3 : Int32)), .val .null, .val (.ref fl), .val (.int (((0 : Int32) + (1 : Int32)) + (1 : Int32))), .val (.int g2), .val (.int g3)]) (st' := [(.ref cg)]) rfl ?_
  refine Goes.getF A (hw _ (List.mem_of_getElem? (i := 38) rfl)) Via.refl (R79.fld (i := 0) (j := 2) rfl rfl) d1_154 ?_
  refine Goes.blk A _ b1_157_2 (pc' := 161) (Ls' := #[.val (.ref cg), .val (.ref gr), .val (.int (3 : Int32)), .val .null, .val (.ref fl), .val (.int (((0 : Int32) + (1 : Int32)) + (1 : Int32))), .val (.int g2), .val (.int g3)]) (st' := [(.int g2), (.int (((0 : Int32) + (1 : Int32)) + (1 : Int32))), (.ref b54)]) rfl ?_
  suffices J99 : ∀ (q2 y2_0 y2_1 y2_2 : Int32) (bl2 : List Value) (h99 : Heap), q2 = plc y1_0 y1_1 y1_2 g2 → y2_0 = bmp 0 y1_0 g2 → y2_1 = bmp 1 y1_1 g2 → y2_2 = bmp 2 y1_2 g2 → bl2 = stb bl1 g2 q2 2 → (bl2).length = (T3 g0 g1 g2 g3).toInt.toNat → Keep h h99 [cg] → Rep Z a0 n0 h99 GB [(cg, true, .inl ("com/example/stillpoint/stillpoint/spec/CallGroups", (CGs (.ref bgA) (.ref b5) (.ref b54) (.ref b1) .null .null .null))), (gr, true, .inr (.int, [(.int g0), (.int g1), (.int g2), (.int g3)])), (b1, true, .inl ("java/util/BitSet", (BSs (.ref wd) (.int (0 : Int32)) (.int (0 : Int32))))), (wd, true, .inr (.long, [(.long (0 : Int64))])), (b5, true, .inr (.int, [(.int (0 : Int32)), (.int (x3_0 + (0 : Int32))), (.int (x3_1 + (x3_0 + (0 : Int32)))), (.int (x3_2 + (x3_1 + (x3_0 + (0 : Int32)))))])), (bgA, true, .inr (.int, bl2)), (b54, true, .inr (.int, [(.int q0), (.int q1), (.int q2), (.int (0 : Int32))])), (fl, true, .inr (.int, [(.int y2_0), (.int y2_1), (.int y2_2)]))] → Goes p l e ({ frames := 3, cells := 6, slots := 19, locals := 49 } : Room) s m #[(.ref cg), (.ref gr), (.int (3 : Int32)), .null] below meth c n0 (fun v h' => ∃ bs wd st bg po fl u w f0 f1 f2, (u = 0 ∨ u = 1) ∧ v = none ∧ h.size ≤ bs ∧ h.size ≤ wd ∧ h.size ≤ st ∧ h.size ≤ bg ∧ h.size ≤ po ∧ h.size ≤ fl ∧ Keep h h' [cg] ∧ Rep Z a0 n0 h' GB [(cg, true, .inl ("com/example/stillpoint/stillpoint/spec/CallGroups", (CGs (.ref bg) (.ref st) (.ref po) (.ref bs) .null .null .null))), (gr, true, .inr (.int, [(.int g0), (.int g1), (.int g2), (.int g3)])), (bs, true, .inl ("java/util/BitSet", (BSs (.ref wd) (.int u) (.int (0 : Int32))))), (wd, true, .inr (.long, [(.long w)])), (st, true, .inr (.int, [(.int (0 : Int32)), (.int (T1 g0 g1 g2 g3)), (.int (T2 g0 g1 g2 g3)), (.int (T3 g0 g1 g2 g3))])), (bg, true, .inr (.int, (BGF g0 g1 g2 g3))), (po, true, .inr (.int, [(.int (P0 g0 g1 g2 g3)), (.int (P1 g0 g1 g2 g3)), (.int (P2 g0 g1 g2 g3)), (.int (P3 g0 g1 g2 g3))])), (fl, true, .inr (.int, [(.int f0), (.int f1), (.int f2)]))]) h99 6 19 198 #[.val (.ref cg), .val (.ref gr), .val (.int (3 : Int32)), .val .null, .val (.ref fl), .val (.int (((0 : Int32) + (1 : Int32)) + (1 : Int32))), .val (.int g2), .val (.int g3)] [] by
    have hlen : (bl1).length = (T3 g0 g1 g2 g3).toInt.toNat := hl1
    have hb := okP_of hB2
    rcases hg2 with rfl | rfl | rfl | rfl
    · skip
      refine Goes.if1 A d1_161 (by decide) (pc' := 168) (by decide) (fun hc => absurd hc (cP_f (by decide))) (fun hc100 => ?_)
      refine Goes.blk A _ b1_164_1 (pc' := 165) (Ls' := #[.val (.ref cg), .val (.ref gr), .val (.int (3 : Int32)), .val .null, .val (.ref fl), .val (.int (((0 : Int32) + (1 : Int32)) + (1 : Int32))), .val (.int (-1 : Int32)), .val (.int g3)]) (st' := [(.int (-1 : Int32)), (.int (((0 : Int32) + (1 : Int32)) + (1 : Int32))), (.ref b54)]) rfl ?_
      refine Goes.jump A d1_165 (by decide) (pc' := 178) (by decide) ?_
      refine Goes.iastore A R79 K79 (i := 6) rfl (Or.inr zs55) (k := 2) (by decide) (Nat.le_of_ble_eq_true rfl) d1_178 (fun h101 K101 R101 => ?_)
      replace R101 : Rep Z a0 n0 h101 GB [(cg, true, .inl ("com/example/stillpoint/stillpoint/spec/CallGroups", (CGs (.ref bgA) (.ref b5) (.ref b54) (.ref b1) .null .null .null))), (gr, true, .inr (.int, [(.int g0), (.int g1), (.int (-1 : Int32)), (.int g3)])), (b1, true, .inl ("java/util/BitSet", (BSs (.ref wd) (.int (0 : Int32)) (.int (0 : Int32))))), (wd, true, .inr (.long, [(.long (0 : Int64))])), (b5, true, .inr (.int, [(.int (0 : Int32)), (.int (x3_0 + (0 : Int32))), (.int (x3_1 + (x3_0 + (0 : Int32)))), (.int (x3_2 + (x3_1 + (x3_0 + (0 : Int32)))))])), (bgA, true, .inr (.int, bl1)), (b54, true, .inr (.int, [(.int q0), (.int q1), (.int (-1 : Int32)), (.int (0 : Int32))])), (fl, true, .inr (.int, [(.int y1_0), (.int y1_1), (.int y1_2)]))] := R101
      refine Goes.blk A _ b1_179_1 (pc' := 181) (Ls' := #[.val (.ref cg), .val (.ref gr), .val (.int (3 : Int32)), .val .null, .val (.ref fl), .val (.int (((0 : Int32) + (1 : Int32)) + (1 : Int32))), .val (.int (-1 : Int32)), .val (.int g3)]) (st' := [(.int (-1 : Int32))]) rfl ?_
      refine Goes.if1 A d1_181 (by decide) (pc' := 198) (by decide) (fun hc102 => ?_) (fun hc => absurd (cP_t (by decide)) hc)
      exact J99 _ _ _ _ _ _ rfl rfl rfl rfl rfl (by rw [stb_len]; exact hlen) K101 R101
    · skip
      refine Goes.if1 A d1_161 (by decide) (pc' := 168) (by decide) (fun hc103 => ?_) (fun hc => absurd (cP_t (by decide)) hc)
      refine Goes.blk A _ b1_168_3 (pc' := 173) (Ls' := #[.val (.ref cg), .val (.ref gr), .val (.int (3 : Int32)), .val .null, .val (.ref fl), .val (.int (((0 : Int32) + (1 : Int32)) + (1 : Int32))), .val (.int (0 : Int32)), .val (.int g3)]) (st' := [(.int (0 : Int32)), (.ref fl), (.int (0 : Int32)), (.ref fl), (.int (((0 : Int32) + (1 : Int32)) + (1 : Int32))), (.ref b54)]) rfl ?_
      refine Goes.iaload A R79 (i := 7) rfl (k := 0) (by decide) rfl d1_173 ?_
      refine Goes.blk A _ b1_174_3 (pc' := 177) (Ls' := #[.val (.ref cg), .val (.ref gr), .val (.int (3 : Int32)), .val .null, .val (.ref fl), .val (.int (((0 : Int32) + (1 : Int32)) + (1 : Int32))), .val (.int (0 : Int32)), .val (.int g3)]) (st' := [(.int (y1_0 + (1 : Int32))), (.int (0 : Int32)), (.ref fl), (.int y1_0), (.int (((0 : Int32) + (1 : Int32)) + (1 : Int32))), (.ref b54)]) rfl ?_
      refine Goes.iastore A R79 K79 (i := 7) rfl (Or.inr (Nat.le_trans K56.1 zt57_0)) (k := 0) (by decide) (Nat.le_of_ble_eq_true rfl) d1_177 (fun h104 K104 R104 => ?_)
      replace R104 : Rep Z a0 n0 h104 GB [(cg, true, .inl ("com/example/stillpoint/stillpoint/spec/CallGroups", (CGs (.ref bgA) (.ref b5) (.ref b54) (.ref b1) .null .null .null))), (gr, true, .inr (.int, [(.int g0), (.int g1), (.int (0 : Int32)), (.int g3)])), (b1, true, .inl ("java/util/BitSet", (BSs (.ref wd) (.int (0 : Int32)) (.int (0 : Int32))))), (wd, true, .inr (.long, [(.long (0 : Int64))])), (b5, true, .inr (.int, [(.int (0 : Int32)), (.int (x3_0 + (0 : Int32))), (.int (x3_1 + (x3_0 + (0 : Int32)))), (.int (x3_2 + (x3_1 + (x3_0 + (0 : Int32)))))])), (bgA, true, .inr (.int, bl1)), (b54, true, .inr (.int, [(.int q0), (.int q1), (.int (0 : Int32)), (.int (0 : Int32))])), (fl, true, .inr (.int, [(.int (y1_0 + (1 : Int32))), (.int y1_1), (.int y1_2)]))] := R104
      refine Goes.iastore A R104 K104 (i := 6) rfl (Or.inr zs55) (k := 2) (by decide) (Nat.le_of_ble_eq_true rfl) d1_178 (fun h105 K105 R105 => ?_)
      replace R105 : Rep Z a0 n0 h105 GB [(cg, true, .inl ("com/example/stillpoint/stillpoint/spec/CallGroups", (CGs (.ref bgA) (.ref b5) (.ref b54) (.ref b1) .null .null .null))), (gr, true, .inr (.int, [(.int g0), (.int g1), (.int (0 : Int32)), (.int g3)])), (b1, true, .inl ("java/util/BitSet", (BSs (.ref wd) (.int (0 : Int32)) (.int (0 : Int32))))), (wd, true, .inr (.long, [(.long (0 : Int64))])), (b5, true, .inr (.int, [(.int (0 : Int32)), (.int (x3_0 + (0 : Int32))), (.int (x3_1 + (x3_0 + (0 : Int32)))), (.int (x3_2 + (x3_1 + (x3_0 + (0 : Int32)))))])), (bgA, true, .inr (.int, bl1)), (b54, true, .inr (.int, [(.int q0), (.int q1), (.int y1_0), (.int (0 : Int32))])), (fl, true, .inr (.int, [(.int (y1_0 + (1 : Int32))), (.int y1_1), (.int y1_2)]))] := R105
      refine Goes.blk A _ b1_179_1 (pc' := 181) (Ls' := #[.val (.ref cg), .val (.ref gr), .val (.int (3 : Int32)), .val .null, .val (.ref fl), .val (.int (((0 : Int32) + (1 : Int32)) + (1 : Int32))), .val (.int (0 : Int32)), .val (.int g3)]) (st' := [(.int (0 : Int32))]) rfl ?_
      refine Goes.if1 A d1_181 (by decide) (pc' := 198) (by decide) (fun hc => absurd hc (cP_f (by decide))) (fun hc106 => ?_)
      refine Goes.blk A _ b1_184_1 (pc' := 185) (Ls' := #[.val (.ref cg), .val (.ref gr), .val (.int (3 : Int32)), .val .null, .val (.ref fl), .val (.int (((0 : Int32) + (1 : Int32)) + (1 : Int32))), .val (.int (0 : Int32)), .val (.int g3)]) (st' := [(.ref cg)]) rfl ?_
      refine Goes.getF A (hw _ (List.mem_of_getElem? (i := 36) rfl)) Via.refl (R105.fld (i := 0) (j := 0) rfl rfl) d1_185 ?_
      refine Goes.blk A _ b1_188_1 (pc' := 189) (Ls' := #[.val (.ref cg), .val (.ref gr), .val (.int (3 : Int32)), .val .null, .val (.ref fl), .val (.int (((0 : Int32) + (1 : Int32)) + (1 : Int32))), .val (.int (0 : Int32)), .val (.int g3)]) (st' := [(.ref cg), (.ref bgA)]) rfl ?_
      refine Goes.getF A (hw _ (List.mem_of_getElem? (i := 38) rfl)) Via.refl (R105.fld (i := 0) (j := 2) rfl rfl) d1_189 ?_
      refine Goes.blk A _ b1_192_1 (pc' := 194) (Ls' := #[.val (.ref cg), .val (.ref gr), .val (.int (3 : Int32)), .val .null, .val (.ref fl), .val (.int (((0 : Int32) + (1 : Int32)) + (1 : Int32))), .val (.int (0 : Int32)), .val (.int g3)]) (st' := [(.int (((0 : Int32) + (1 : Int32)) + (1 : Int32))), (.ref b54), (.ref bgA)]) rfl ?_
      refine Goes.iaload A R105 (i := 6) rfl (k := 2) (by decide) rfl d1_194 ?_
      refine Goes.blk A _ b1_195_1 (pc' := 197) (Ls' := #[.val (.ref cg), .val (.ref gr), .val (.int (3 : Int32)), .val .null, .val (.ref fl), .val (.int (((0 : Int32) + (1 : Int32)) + (1 : Int32))), .val (.int (0 : Int32)), .val (.int g3)]) (st' := [(.int (((0 : Int32) + (1 : Int32)) + (1 : Int32))), (.int y1_0), (.ref bgA)]) rfl ?_
      have hb2 : 0 ≤ (y1_0).toInt ∧ (y1_0).toInt < (T3 g0 g1 0 g3).toInt := by have q9 := hb (by decide); subst_vars; exact q9
      refine Goes.iastore A R105 K105 (i := 5) rfl (Or.inr zs52) (k := (y1_0).toInt.toNat) (Int.toNat_of_nonneg hb2.1).symm (by rw [hlen]; omega) d1_197 (fun h107 K107 R107 => ?_)
      exact J99 _ _ _ _ _ _ rfl rfl rfl rfl rfl (by rw [stb_len]; exact hlen) K107 R107
    · skip
      refine Goes.if1 A d1_161 (by decide) (pc' := 168) (by decide) (fun hc108 => ?_) (fun hc => absurd (cP_t (by decide)) hc)
      refine Goes.blk A _ b1_168_3 (pc' := 173) (Ls' := #[.val (.ref cg), .val (.ref gr), .val (.int (3 : Int32)), .val .null, .val (.ref fl), .val (.int (((0 : Int32) + (1 : Int32)) + (1 : Int32))), .val (.int (1 : Int32)), .val (.int g3)]) (st' := [(.int (1 : Int32)), (.ref fl), (.int (1 : Int32)), (.ref fl), (.int (((0 : Int32) + (1 : Int32)) + (1 : Int32))), (.ref b54)]) rfl ?_
      refine Goes.iaload A R79 (i := 7) rfl (k := 1) (by decide) rfl d1_173 ?_
      refine Goes.blk A _ b1_174_3 (pc' := 177) (Ls' := #[.val (.ref cg), .val (.ref gr), .val (.int (3 : Int32)), .val .null, .val (.ref fl), .val (.int (((0 : Int32) + (1 : Int32)) + (1 : Int32))), .val (.int (1 : Int32)), .val (.int g3)]) (st' := [(.int (y1_1 + (1 : Int32))), (.int (1 : Int32)), (.ref fl), (.int y1_1), (.int (((0 : Int32) + (1 : Int32)) + (1 : Int32))), (.ref b54)]) rfl ?_
      refine Goes.iastore A R79 K79 (i := 7) rfl (Or.inr (Nat.le_trans K56.1 zt57_0)) (k := 1) (by decide) (Nat.le_of_ble_eq_true rfl) d1_177 (fun h109 K109 R109 => ?_)
      replace R109 : Rep Z a0 n0 h109 GB [(cg, true, .inl ("com/example/stillpoint/stillpoint/spec/CallGroups", (CGs (.ref bgA) (.ref b5) (.ref b54) (.ref b1) .null .null .null))), (gr, true, .inr (.int, [(.int g0), (.int g1), (.int (1 : Int32)), (.int g3)])), (b1, true, .inl ("java/util/BitSet", (BSs (.ref wd) (.int (0 : Int32)) (.int (0 : Int32))))), (wd, true, .inr (.long, [(.long (0 : Int64))])), (b5, true, .inr (.int, [(.int (0 : Int32)), (.int (x3_0 + (0 : Int32))), (.int (x3_1 + (x3_0 + (0 : Int32)))), (.int (x3_2 + (x3_1 + (x3_0 + (0 : Int32)))))])), (bgA, true, .inr (.int, bl1)), (b54, true, .inr (.int, [(.int q0), (.int q1), (.int (0 : Int32)), (.int (0 : Int32))])), (fl, true, .inr (.int, [(.int y1_0), (.int (y1_1 + (1 : Int32))), (.int y1_2)]))] := R109
      refine Goes.iastore A R109 K109 (i := 6) rfl (Or.inr zs55) (k := 2) (by decide) (Nat.le_of_ble_eq_true rfl) d1_178 (fun h110 K110 R110 => ?_)
      replace R110 : Rep Z a0 n0 h110 GB [(cg, true, .inl ("com/example/stillpoint/stillpoint/spec/CallGroups", (CGs (.ref bgA) (.ref b5) (.ref b54) (.ref b1) .null .null .null))), (gr, true, .inr (.int, [(.int g0), (.int g1), (.int (1 : Int32)), (.int g3)])), (b1, true, .inl ("java/util/BitSet", (BSs (.ref wd) (.int (0 : Int32)) (.int (0 : Int32))))), (wd, true, .inr (.long, [(.long (0 : Int64))])), (b5, true, .inr (.int, [(.int (0 : Int32)), (.int (x3_0 + (0 : Int32))), (.int (x3_1 + (x3_0 + (0 : Int32)))), (.int (x3_2 + (x3_1 + (x3_0 + (0 : Int32)))))])), (bgA, true, .inr (.int, bl1)), (b54, true, .inr (.int, [(.int q0), (.int q1), (.int y1_1), (.int (0 : Int32))])), (fl, true, .inr (.int, [(.int y1_0), (.int (y1_1 + (1 : Int32))), (.int y1_2)]))] := R110
      refine Goes.blk A _ b1_179_1 (pc' := 181) (Ls' := #[.val (.ref cg), .val (.ref gr), .val (.int (3 : Int32)), .val .null, .val (.ref fl), .val (.int (((0 : Int32) + (1 : Int32)) + (1 : Int32))), .val (.int (1 : Int32)), .val (.int g3)]) (st' := [(.int (1 : Int32))]) rfl ?_
      refine Goes.if1 A d1_181 (by decide) (pc' := 198) (by decide) (fun hc => absurd hc (cP_f (by decide))) (fun hc111 => ?_)
      refine Goes.blk A _ b1_184_1 (pc' := 185) (Ls' := #[.val (.ref cg), .val (.ref gr), .val (.int (3 : Int32)), .val .null, .val (.ref fl), .val (.int (((0 : Int32) + (1 : Int32)) + (1 : Int32))), .val (.int (1 : Int32)), .val (.int g3)]) (st' := [(.ref cg)]) rfl ?_
      refine Goes.getF A (hw _ (List.mem_of_getElem? (i := 36) rfl)) Via.refl (R110.fld (i := 0) (j := 0) rfl rfl) d1_185 ?_
      refine Goes.blk A _ b1_188_1 (pc' := 189) (Ls' := #[.val (.ref cg), .val (.ref gr), .val (.int (3 : Int32)), .val .null, .val (.ref fl), .val (.int (((0 : Int32) + (1 : Int32)) + (1 : Int32))), .val (.int (1 : Int32)), .val (.int g3)]) (st' := [(.ref cg), (.ref bgA)]) rfl ?_
      refine Goes.getF A (hw _ (List.mem_of_getElem? (i := 38) rfl)) Via.refl (R110.fld (i := 0) (j := 2) rfl rfl) d1_189 ?_
      refine Goes.blk A _ b1_192_1 (pc' := 194) (Ls' := #[.val (.ref cg), .val (.ref gr), .val (.int (3 : Int32)), .val .null, .val (.ref fl), .val (.int (((0 : Int32) + (1 : Int32)) + (1 : Int32))), .val (.int (1 : Int32)), .val (.int g3)]) (st' := [(.int (((0 : Int32) + (1 : Int32)) + (1 : Int32))), (.ref b54), (.ref bgA)]) rfl ?_
      refine Goes.iaload A R110 (i := 6) rfl (k := 2) (by decide) rfl d1_194 ?_
      refine Goes.blk A _ b1_195_1 (pc' := 197) (Ls' := #[.val (.ref cg), .val (.ref gr), .val (.int (3 : Int32)), .val .null, .val (.ref fl), .val (.int (((0 : Int32) + (1 : Int32)) + (1 : Int32))), .val (.int (1 : Int32)), .val (.int g3)]) (st' := [(.int (((0 : Int32) + (1 : Int32)) + (1 : Int32))), (.int y1_1), (.ref bgA)]) rfl ?_
      have hb2 : 0 ≤ (y1_1).toInt ∧ (y1_1).toInt < (T3 g0 g1 1 g3).toInt := by have q9 := hb (by decide); subst_vars; exact q9
      refine Goes.iastore A R110 K110 (i := 5) rfl (Or.inr zs52) (k := (y1_1).toInt.toNat) (Int.toNat_of_nonneg hb2.1).symm (by rw [hlen]; omega) d1_197 (fun h112 K112 R112 => ?_)
      exact J99 _ _ _ _ _ _ rfl rfl rfl rfl rfl (by rw [stb_len]; exact hlen) K112 R112
    · skip
      refine Goes.if1 A d1_161 (by decide) (pc' := 168) (by decide) (fun hc113 => ?_) (fun hc => absurd (cP_t (by decide)) hc)
      refine Goes.blk A _ b1_168_3 (pc' := 173) (Ls' := #[.val (.ref cg), .val (.ref gr), .val (.int (3 : Int32)), .val .null, .val (.ref fl), .val (.int (((0 : Int32) + (1 : Int32)) + (1 : Int32))), .val (.int (2 : Int32)), .val (.int g3)]) (st' := [(.int (2 : Int32)), (.ref fl), (.int (2 : Int32)), (.ref fl), (.int (((0 : Int32) + (1 : Int32)) + (1 : Int32))), (.ref b54)]) rfl ?_
      refine Goes.iaload A R79 (i := 7) rfl (k := 2) (by decide) rfl d1_173 ?_
      refine Goes.blk A _ b1_174_3 (pc' := 177) (Ls' := #[.val (.ref cg), .val (.ref gr), .val (.int (3 : Int32)), .val .null, .val (.ref fl), .val (.int (((0 : Int32) + (1 : Int32)) + (1 : Int32))), .val (.int (2 : Int32)), .val (.int g3)]) (st' := [(.int (y1_2 + (1 : Int32))), (.int (2 : Int32)), (.ref fl), (.int y1_2), (.int (((0 : Int32) + (1 : Int32)) + (1 : Int32))), (.ref b54)]) rfl ?_
      refine Goes.iastore A R79 K79 (i := 7) rfl (Or.inr (Nat.le_trans K56.1 zt57_0)) (k := 2) (by decide) (Nat.le_of_ble_eq_true rfl) d1_177 (fun h114 K114 R114 => ?_)
      replace R114 : Rep Z a0 n0 h114 GB [(cg, true, .inl ("com/example/stillpoint/stillpoint/spec/CallGroups", (CGs (.ref bgA) (.ref b5) (.ref b54) (.ref b1) .null .null .null))), (gr, true, .inr (.int, [(.int g0), (.int g1), (.int (2 : Int32)), (.int g3)])), (b1, true, .inl ("java/util/BitSet", (BSs (.ref wd) (.int (0 : Int32)) (.int (0 : Int32))))), (wd, true, .inr (.long, [(.long (0 : Int64))])), (b5, true, .inr (.int, [(.int (0 : Int32)), (.int (x3_0 + (0 : Int32))), (.int (x3_1 + (x3_0 + (0 : Int32)))), (.int (x3_2 + (x3_1 + (x3_0 + (0 : Int32)))))])), (bgA, true, .inr (.int, bl1)), (b54, true, .inr (.int, [(.int q0), (.int q1), (.int (0 : Int32)), (.int (0 : Int32))])), (fl, true, .inr (.int, [(.int y1_0), (.int y1_1), (.int (y1_2 + (1 : Int32)))]))] := R114
      refine Goes.iastore A R114 K114 (i := 6) rfl (Or.inr zs55) (k := 2) (by decide) (Nat.le_of_ble_eq_true rfl) d1_178 (fun h115 K115 R115 => ?_)
      replace R115 : Rep Z a0 n0 h115 GB [(cg, true, .inl ("com/example/stillpoint/stillpoint/spec/CallGroups", (CGs (.ref bgA) (.ref b5) (.ref b54) (.ref b1) .null .null .null))), (gr, true, .inr (.int, [(.int g0), (.int g1), (.int (2 : Int32)), (.int g3)])), (b1, true, .inl ("java/util/BitSet", (BSs (.ref wd) (.int (0 : Int32)) (.int (0 : Int32))))), (wd, true, .inr (.long, [(.long (0 : Int64))])), (b5, true, .inr (.int, [(.int (0 : Int32)), (.int (x3_0 + (0 : Int32))), (.int (x3_1 + (x3_0 + (0 : Int32)))), (.int (x3_2 + (x3_1 + (x3_0 + (0 : Int32)))))])), (bgA, true, .inr (.int, bl1)), (b54, true, .inr (.int, [(.int q0), (.int q1), (.int y1_2), (.int (0 : Int32))])), (fl, true, .inr (.int, [(.int y1_0), (.int y1_1), (.int (y1_2 + (1 : Int32)))]))] := R115
      refine Goes.blk A _ b1_179_1 (pc' := 181) (Ls' := #[.val (.ref cg), .val (.ref gr), .val (.int (3 : Int32)), .val .null, .val (.ref fl), .val (.int (((0 : Int32) + (1 : Int32)) + (1 : Int32))), .val (.int (2 : Int32)), .val (.int g3)]) (st' := [(.int (2 : Int32))]) rfl ?_
      refine Goes.if1 A d1_181 (by decide) (pc' := 198) (by decide) (fun hc => absurd hc (cP_f (by decide))) (fun hc116 => ?_)
      refine Goes.blk A _ b1_184_1 (pc' := 185) (Ls' := #[.val (.ref cg), .val (.ref gr), .val (.int (3 : Int32)), .val .null, .val (.ref fl), .val (.int (((0 : Int32) + (1 : Int32)) + (1 : Int32))), .val (.int (2 : Int32)), .val (.int g3)]) (st' := [(.ref cg)]) rfl ?_
      refine Goes.getF A (hw _ (List.mem_of_getElem? (i := 36) rfl)) Via.refl (R115.fld (i := 0) (j := 0) rfl rfl) d1_185 ?_
      refine Goes.blk A _ b1_188_1 (pc' := 189) (Ls' := #[.val (.ref cg), .val (.ref gr), .val (.int (3 : Int32)), .val .null, .val (.ref fl), .val (.int (((0 : Int32) + (1 : Int32)) + (1 : Int32))), .val (.int (2 : Int32)), .val (.int g3)]) (st' := [(.ref cg), (.ref bgA)]) rfl ?_
      refine Goes.getF A (hw _ (List.mem_of_getElem? (i := 38) rfl)) Via.refl (R115.fld (i := 0) (j := 2) rfl rfl) d1_189 ?_
      refine Goes.blk A _ b1_192_1 (pc' := 194) (Ls' := #[.val (.ref cg), .val (.ref gr), .val (.int (3 : Int32)), .val .null, .val (.ref fl), .val (.int (((0 : Int32) + (1 : Int32)) + (1 : Int32))), .val (.int (2 : Int32)), .val (.int g3)]) (st' := [(.int (((0 : Int32) + (1 : Int32)) + (1 : Int32))), (.ref b54), (.ref bgA)]) rfl ?_
      refine Goes.iaload A R115 (i := 6) rfl (k := 2) (by decide) rfl d1_194 ?_
      refine Goes.blk A _ b1_195_1 (pc' := 197) (Ls' := #[.val (.ref cg), .val (.ref gr), .val (.int (3 : Int32)), .val .null, .val (.ref fl), .val (.int (((0 : Int32) + (1 : Int32)) + (1 : Int32))), .val (.int (2 : Int32)), .val (.int g3)]) (st' := [(.int (((0 : Int32) + (1 : Int32)) + (1 : Int32))), (.int y1_2), (.ref bgA)]) rfl ?_
      have hb2 : 0 ≤ (y1_2).toInt ∧ (y1_2).toInt < (T3 g0 g1 2 g3).toInt := by have q9 := hb (by decide); subst_vars; exact q9
      refine Goes.iastore A R115 K115 (i := 5) rfl (Or.inr zs52) (k := (y1_2).toInt.toNat) (Int.toNat_of_nonneg hb2.1).symm (by rw [hlen]; omega) d1_197 (fun h117 K117 R117 => ?_)
      exact J99 _ _ _ _ _ _ rfl rfl rfl rfl rfl (by rw [stb_len]; exact hlen) K117 R117
  intro q2 y2_0 y2_1 y2_2 bl2 h99 e99_0 e99_1 e99_2 e99_3 e99_4 e99_5 K99 R99
  have hl2 := e99_5
  refine Goes.blk A _ b1_198_1 (pc' := 201) (Ls' := #[.val (.ref cg), .val (.ref gr), .val (.int (3 : Int32)), .val .null, .val (.ref fl), .val (.int ((((0 : Int32) + (1 : Int32)) + (1 : Int32)) + (1 : Int32))), .val (.int g2), .val (.int g3)]) (st' := []) rfl ?_
  refine Goes.jump A d1_201 (by decide) (pc' := 140) (by decide) ?_
  refine Goes.blk A _ b1_140_2 (pc' := 143) (Ls' := #[.val (.ref cg), .val (.ref gr), .val (.int (3 : Int32)), .val .null, .val (.ref fl), .val (.int ((((0 : Int32) + (1 : Int32)) + (1 : Int32)) + (1 : Int32))), .val (.int g2), .val (.int g3)]) (st' := [(.ref gr), (.int ((((0 : Int32) + (1 : Int32)) + (1 : Int32)) + (1 : Int32)))]) rfl ?_
  refine Goes.alen A R99 (i := 1) rfl (z := 4) (by rfl) d1_143 ?_
  refine Goes.if2 A d1_144 (by decide) (pc' := 204) (by decide) (fun hc => absurd hc (cP_f (by decide))) (fun hc118 => ?_)
  refine Goes.blk A _ b1_147_2 (pc' := 150) (Ls' := #[.val (.ref cg), .val (.ref gr), .val (.int (3 : Int32)), .val .null, .val (.ref fl), .val (.int ((((0 : Int32) + (1 : Int32)) + (1 : Int32)) + (1 : Int32))), .val (.int g2), .val (.int g3)]) (st' := [(.int ((((0 : Int32) + (1 : Int32)) + (1 : Int32)) + (1 : Int32))), (.ref gr)]) rfl ?_
  refine Goes.iaload A R99 (i := 1) rfl (k := 3) (by decide) rfl d1_150 ?_
  refine Goes.blk A _ b1_151_2 (pc' := 154) (Ls' := #[.val (.ref cg), .val (.ref gr), .val (.int (3 : Int32)), .val .null, .val (.ref fl), .val (.int ((((0 : Int32) + (1 : Int32)) + (1 : Int32)) + (1 : Int32))), .val (.int g3), .val (.int g3)]) (st' := [(.ref cg)]) rfl ?_
  refine Goes.getF A (hw _ (List.mem_of_getElem? (i := 38) rfl)) Via.refl (R99.fld (i := 0) (j := 2) rfl rfl) d1_154 ?_
  refine Goes.blk A _ b1_157_2 (pc' := 161) (Ls' := #[.val (.ref cg), .val (.ref gr), .val (.int (3 : Int32)), .val .null, .val (.ref fl), .val (.int ((((0 : Int32) + (1 : Int32)) + (1 : Int32)) + (1 : Int32))), .val (.int g3), .val (.int g3)]) (st' := [(.int g3), (.int ((((0 : Int32) + (1 : Int32)) + (1 : Int32)) + (1 : Int32))), (.ref b54)]) rfl ?_
  suffices J119 : ∀ (q3 y3_0 y3_1 y3_2 : Int32) (bl3 : List Value) (h119 : Heap), q3 = plc y2_0 y2_1 y2_2 g3 → y3_0 = bmp 0 y2_0 g3 → y3_1 = bmp 1 y2_1 g3 → y3_2 = bmp 2 y2_2 g3 → bl3 = stb bl2 g3 q3 3 → (bl3).length = (T3 g0 g1 g2 g3).toInt.toNat → Keep h h119 [cg] → Rep Z a0 n0 h119 GB [(cg, true, .inl ("com/example/stillpoint/stillpoint/spec/CallGroups", (CGs (.ref bgA) (.ref b5) (.ref b54) (.ref b1) .null .null .null))), (gr, true, .inr (.int, [(.int g0), (.int g1), (.int g2), (.int g3)])), (b1, true, .inl ("java/util/BitSet", (BSs (.ref wd) (.int (0 : Int32)) (.int (0 : Int32))))), (wd, true, .inr (.long, [(.long (0 : Int64))])), (b5, true, .inr (.int, [(.int (0 : Int32)), (.int (x3_0 + (0 : Int32))), (.int (x3_1 + (x3_0 + (0 : Int32)))), (.int (x3_2 + (x3_1 + (x3_0 + (0 : Int32)))))])), (bgA, true, .inr (.int, bl3)), (b54, true, .inr (.int, [(.int q0), (.int q1), (.int q2), (.int q3)])), (fl, true, .inr (.int, [(.int y3_0), (.int y3_1), (.int y3_2)]))] → Goes p l e ({ frames := 3, cells := 6, slots := 19, locals := 49 } : Room) s m #[(.ref cg), (.ref gr), (.int (3 : Int32)), .null] below meth c n0 (fun v h' => ∃ bs wd st bg po fl u w f0 f1 f2, (u = 0 ∨ u = 1) ∧ v = none ∧ h.size ≤ bs ∧ h.size ≤ wd ∧ h.size ≤ st ∧ h.size ≤ bg ∧ h.size ≤ po ∧ h.size ≤ fl ∧ Keep h h' [cg] ∧ Rep Z a0 n0 h' GB [(cg, true, .inl ("com/example/stillpoint/stillpoint/spec/CallGroups", (CGs (.ref bg) (.ref st) (.ref po) (.ref bs) .null .null .null))), (gr, true, .inr (.int, [(.int g0), (.int g1), (.int g2), (.int g3)])), (bs, true, .inl ("java/util/BitSet", (BSs (.ref wd) (.int u) (.int (0 : Int32))))), (wd, true, .inr (.long, [(.long w)])), (st, true, .inr (.int, [(.int (0 : Int32)), (.int (T1 g0 g1 g2 g3)), (.int (T2 g0 g1 g2 g3)), (.int (T3 g0 g1 g2 g3))])), (bg, true, .inr (.int, (BGF g0 g1 g2 g3))), (po, true, .inr (.int, [(.int (P0 g0 g1 g2 g3)), (.int (P1 g0 g1 g2 g3)), (.int (P2 g0 g1 g2 g3)), (.int (P3 g0 g1 g2 g3))])), (fl, true, .inr (.int, [(.int f0), (.int f1), (.int f2)]))]) h119 6 19 198 #[.val (.ref cg), .val (.ref gr), .val (.int (3 : Int32)), .val .null, .val (.ref fl), .val (.int ((((0 : Int32) + (1 : Int32)) + (1 : Int32)) + (1 : Int32))), .val (.int g3), .val (.int g3)] [] by
    have hlen : (bl2).length = (T3 g0 g1 g2 g3).toInt.toNat := hl2
    have hb := okP_of hB3
    rcases hg3 with rfl | rfl | rfl | rfl
    · skip
      refine Goes.if1 A d1_161 (by decide) (pc' := 168) (by decide) (fun hc => absurd hc (cP_f (by decide))) (fun hc120 => ?_)
      refine Goes.blk A _ b1_164_1 (pc' := 165) (Ls' := #[.val (.ref cg), .val (.ref gr), .val (.int (3 : Int32)), .val .null, .val (.ref fl), .val (.int ((((0 : Int32) + (1 : Int32)) + (1 : Int32)) + (1 : Int32))), .val (.int (-1 : Int32)), .val (.int (-1 : Int32))]) (st' := [(.int (-1 : Int32)), (.int ((((0 : Int32) + (1 : Int32)) + (1 : Int32)) + (1 : Int32))), (.ref b54)]) rfl ?_
      refine Goes.jump A d1_165 (by decide) (pc' := 178) (by decide) ?_
      refine Goes.iastore A R99 K99 (i := 6) rfl (Or.inr zs55) (k := 3) (by decide) (Nat.le_of_ble_eq_true rfl) d1_178 (fun h121 K121 R121 => ?_)
      replace R121 : Rep Z a0 n0 h121 GB [(cg, true, .inl ("com/example/stillpoint/stillpoint/spec/CallGroups", (CGs (.ref bgA) (.ref b5) (.ref b54) (.ref b1) .null .null .null))), (gr, true, .inr (.int, [(.int g0), (.int g1), (.int g2), (.int (-1 : Int32))])), (b1, true, .inl ("java/util/BitSet", (BSs (.ref wd) (.int (0 : Int32)) (.int (0 : Int32))))), (wd, true, .inr (.long, [(.long (0 : Int64))])), (b5, true, .inr (.int, [(.int (0 : Int32)), (.int (x3_0 + (0 : Int32))), (.int (x3_1 + (x3_0 + (0 : Int32)))), (.int (x3_2 + (x3_1 + (x3_0 + (0 : Int32)))))])), (bgA, true, .inr (.int, bl2)), (b54, true, .inr (.int, [(.int q0), (.int q1), (.int q2), (.int (-1 : Int32))])), (fl, true, .inr (.int, [(.int y2_0), (.int y2_1), (.int y2_2)]))] := R121
      refine Goes.blk A _ b1_179_1 (pc' := 181) (Ls' := #[.val (.ref cg), .val (.ref gr), .val (.int (3 : Int32)), .val .null, .val (.ref fl), .val (.int ((((0 : Int32) + (1 : Int32)) + (1 : Int32)) + (1 : Int32))), .val (.int (-1 : Int32)), .val (.int (-1 : Int32))]) (st' := [(.int (-1 : Int32))]) rfl ?_
      refine Goes.if1 A d1_181 (by decide) (pc' := 198) (by decide) (fun hc122 => ?_) (fun hc => absurd (cP_t (by decide)) hc)
      exact J119 _ _ _ _ _ _ rfl rfl rfl rfl rfl (by rw [stb_len]; exact hlen) K121 R121
    · skip
      refine Goes.if1 A d1_161 (by decide) (pc' := 168) (by decide) (fun hc123 => ?_) (fun hc => absurd (cP_t (by decide)) hc)
      refine Goes.blk A _ b1_168_3 (pc' := 173) (Ls' := #[.val (.ref cg), .val (.ref gr), .val (.int (3 : Int32)), .val .null, .val (.ref fl), .val (.int ((((0 : Int32) + (1 : Int32)) + (1 : Int32)) + (1 : Int32))), .val (.int (0 : Int32)), .val (.int (0 : Int32))]) (st' := [(.int (0 : Int32)), (.ref fl), (.int (0 : Int32)), (.ref fl), (.int ((((0 : Int32) + (1 : Int32)) + (1 : Int32)) + (1 : Int32))), (.ref b54)]) rfl ?_
      refine Goes.iaload A R99 (i := 7) rfl (k := 0) (by decide) rfl d1_173 ?_
      refine Goes.blk A _ b1_174_3 (pc' := 177) (Ls' := #[.val (.ref cg), .val (.ref gr), .val (.int (3 : Int32)), .val .null, .val (.ref fl), .val (.int ((((0 : Int32) + (1 : Int32)) + (1 : Int32)) + (1 : Int32))), .val (.int (0 : Int32)), .val (.int (0 : Int32))]) (st' := [(.int (y2_0 + (1 : Int32))), (.int (0 : Int32)), (.ref fl), (.int y2_0), (.int ((((0 : Int32) + (1 : Int32)) + (1 : Int32)) + (1 : Int32))), (.ref b54)]) rfl ?_
      refine Goes.iastore A R99 K99 (i := 7) rfl (Or.inr (Nat.le_trans K56.1 zt57_0)) (k := 0) (by decide) (Nat.le_of_ble_eq_true rfl) d1_177 (fun h124 K124 R124 => ?_)
      replace R124 : Rep Z a0 n0 h124 GB [(cg, true, .inl ("com/example/stillpoint/stillpoint/spec/CallGroups", (CGs (.ref bgA) (.ref b5) (.ref b54) (.ref b1) .null .null .null))), (gr, true, .inr (.int, [(.int g0), (.int g1), (.int g2), (.int (0 : Int32))])), (b1, true, .inl ("java/util/BitSet", (BSs (.ref wd) (.int (0 : Int32)) (.int (0 : Int32))))), (wd, true, .inr (.long, [(.long (0 : Int64))])), (b5, true, .inr (.int, [(.int (0 : Int32)), (.int (x3_0 + (0 : Int32))), (.int (x3_1 + (x3_0 + (0 : Int32)))), (.int (x3_2 + (x3_1 + (x3_0 + (0 : Int32)))))])), (bgA, true, .inr (.int, bl2)), (b54, true, .inr (.int, [(.int q0), (.int q1), (.int q2), (.int (0 : Int32))])), (fl, true, .inr (.int, [(.int (y2_0 + (1 : Int32))), (.int y2_1), (.int y2_2)]))] := R124
      refine Goes.iastore A R124 K124 (i := 6) rfl (Or.inr zs55) (k := 3) (by decide) (Nat.le_of_ble_eq_true rfl) d1_178 (fun h125 K125 R125 => ?_)
      replace R125 : Rep Z a0 n0 h125 GB [(cg, true, .inl ("com/example/stillpoint/stillpoint/spec/CallGroups", (CGs (.ref bgA) (.ref b5) (.ref b54) (.ref b1) .null .null .null))), (gr, true, .inr (.int, [(.int g0), (.int g1), (.int g2), (.int (0 : Int32))])), (b1, true, .inl ("java/util/BitSet", (BSs (.ref wd) (.int (0 : Int32)) (.int (0 : Int32))))), (wd, true, .inr (.long, [(.long (0 : Int64))])), (b5, true, .inr (.int, [(.int (0 : Int32)), (.int (x3_0 + (0 : Int32))), (.int (x3_1 + (x3_0 + (0 : Int32)))), (.int (x3_2 + (x3_1 + (x3_0 + (0 : Int32)))))])), (bgA, true, .inr (.int, bl2)), (b54, true, .inr (.int, [(.int q0), (.int q1), (.int q2), (.int y2_0)])), (fl, true, .inr (.int, [(.int (y2_0 + (1 : Int32))), (.int y2_1), (.int y2_2)]))] := R125
      refine Goes.blk A _ b1_179_1 (pc' := 181) (Ls' := #[.val (.ref cg), .val (.ref gr), .val (.int (3 : Int32)), .val .null, .val (.ref fl), .val (.int ((((0 : Int32) + (1 : Int32)) + (1 : Int32)) + (1 : Int32))), .val (.int (0 : Int32)), .val (.int (0 : Int32))]) (st' := [(.int (0 : Int32))]) rfl ?_
      refine Goes.if1 A d1_181 (by decide) (pc' := 198) (by decide) (fun hc => absurd hc (cP_f (by decide))) (fun hc126 => ?_)
      refine Goes.blk A _ b1_184_1 (pc' := 185) (Ls' := #[.val (.ref cg), .val (.ref gr), .val (.int (3 : Int32)), .val .null, .val (.ref fl), .val (.int ((((0 : Int32) + (1 : Int32)) + (1 : Int32)) + (1 : Int32))), .val (.int (0 : Int32)), .val (.int (0 : Int32))]) (st' := [(.ref cg)]) rfl ?_
      refine Goes.getF A (hw _ (List.mem_of_getElem? (i := 36) rfl)) Via.refl (R125.fld (i := 0) (j := 0) rfl rfl) d1_185 ?_
      refine Goes.blk A _ b1_188_1 (pc' := 189) (Ls' := #[.val (.ref cg), .val (.ref gr), .val (.int (3 : Int32)), .val .null, .val (.ref fl), .val (.int ((((0 : Int32) + (1 : Int32)) + (1 : Int32)) + (1 : Int32))), .val (.int (0 : Int32)), .val (.int (0 : Int32))]) (st' := [(.ref cg), (.ref bgA)]) rfl ?_
      refine Goes.getF A (hw _ (List.mem_of_getElem? (i := 38) rfl)) Via.refl (R125.fld (i := 0) (j := 2) rfl rfl) d1_189 ?_
      refine Goes.blk A _ b1_192_1 (pc' := 194) (Ls' := #[.val (.ref cg), .val (.ref gr), .val (.int (3 : Int32)), .val .null, .val (.ref fl), .val (.int ((((0 : Int32) + (1 : Int32)) + (1 : Int32)) + (1 : Int32))), .val (.int (0 : Int32)), .val (.int (0 : Int32))]) (st' := [(.int ((((0 : Int32) + (1 : Int32)) + (1 : Int32)) + (1 : Int32))), (.ref b54), (.ref bgA)]) rfl ?_
      refine Goes.iaload A R125 (i := 6) rfl (k := 3) (by decide) rfl d1_194 ?_
      refine Goes.blk A _ b1_195_1 (pc' := 197) (Ls' := #[.val (.ref cg), .val (.ref gr), .val (.int (3 : Int32)), .val .null, .val (.ref fl), .val (.int ((((0 : Int32) + (1 : Int32)) + (1 : Int32)) + (1 : Int32))), .val (.int (0 : Int32)), .val (.int (0 : Int32))]) (st' := [(.int ((((0 : Int32) + (1 : Int32)) + (1 : Int32)) + (1 : Int32))), (.int y2_0), (.ref bgA)]) rfl ?_
      have hb2 : 0 ≤ (y2_0).toInt ∧ (y2_0).toInt < (T3 g0 g1 g2 0).toInt := by have q9 := hb (by decide); subst_vars; exact q9
      refine Goes.iastore A R125 K125 (i := 5) rfl (Or.inr zs52) (k := (y2_0).toInt.toNat) (Int.toNat_of_nonneg hb2.1).symm (by rw [hlen]; omega) d1_197 (fun h127 K127 R127 => ?_)
      exact J119 _ _ _ _ _ _ rfl rfl rfl rfl rfl (by rw [stb_len]; exact hlen) K127 R127
    · skip
      refine Goes.if1 A d1_161 (by decide) (pc' := 168) (by decide) (fun hc128 => ?_) (fun hc => absurd (cP_t (by decide)) hc)
      refine Goes.blk A _ b1_168_3 (pc' := 173) (Ls' := #[.val (.ref cg), .val (.ref gr), .val (.int (3 : Int32)), .val .null, .val (.ref fl), .val (.int ((((0 : Int32) + (1 : Int32)) + (1 : Int32)) + (1 : Int32))), .val (.int (1 : Int32)), .val (.int (1 : Int32))]) (st' := [(.int (1 : Int32)), (.ref fl), (.int (1 : Int32)), (.ref fl), (.int ((((0 : Int32) + (1 : Int32)) + (1 : Int32)) + (1 : Int32))), (.ref b54)]) rfl ?_
      refine Goes.iaload A R99 (i := 7) rfl (k := 1) (by decide) rfl d1_173 ?_
      refine Goes.blk A _ b1_174_3 (pc' := 177) (Ls' := #[.val (.ref cg), .val (.ref gr), .val (.int (3 : Int32)), .val .null, .val (.ref fl), .val (.int ((((0 : Int32) + (1 : Int32)) + (1 : Int32)) + (1 : Int32))), .val (.int (1 : Int32)), .val (.int (1 : Int32))]) (st' := [(.int (y2_1 + (1 : Int32))), (.int (1 : Int32)), (.ref fl), (.int y2_1), (.int ((((0 : Int32) + (1 : Int32)) + (1 : Int32)) + (1 : Int32))), (.ref b54)]) rfl ?_
      refine Goes.iastore A R99 K99 (i := 7) rfl (Or.inr (Nat.le_trans K56.1 zt57_0)) (k := 1) (by decide) (Nat.le_of_ble_eq_true rfl) d1_177 (fun h129 K129 R129 => ?_)
      replace R129 : Rep Z a0 n0 h129 GB [(cg, true, .inl ("com/example/stillpoint/stillpoint/spec/CallGroups", (CGs (.ref bgA) (.ref b5) (.ref b54) (.ref b1) .null .null .null))), (gr, true, .inr (.int, [(.int g0), (.int g1), (.int g2), (.int (1 : Int32))])), (b1, true, .inl ("java/util/BitSet", (BSs (.ref wd) (.int (0 : Int32)) (.int (0 : Int32))))), (wd, true, .inr (.long, [(.long (0 : Int64))])), (b5, true, .inr (.int, [(.int (0 : Int32)), (.int (x3_0 + (0 : Int32))), (.int (x3_1 + (x3_0 + (0 : Int32)))), (.int (x3_2 + (x3_1 + (x3_0 + (0 : Int32)))))])), (bgA, true, .inr (.int, bl2)), (b54, true, .inr (.int, [(.int q0), (.int q1), (.int q2), (.int (0 : Int32))])), (fl, true, .inr (.int, [(.int y2_0), (.int (y2_1 + (1 : Int32))), (.int y2_2)]))] := R129
      refine Goes.iastore A R129 K129 (i := 6) rfl (Or.inr zs55) (k := 3) (by decide) (Nat.le_of_ble_eq_true rfl) d1_178 (fun h130 K130 R130 => ?_)
      replace R130 : Rep Z a0 n0 h130 GB [(cg, true, .inl ("com/example/stillpoint/stillpoint/spec/CallGroups", (CGs (.ref bgA) (.ref b5) (.ref b54) (.ref b1) .null .null .null))), (gr, true, .inr (.int, [(.int g0), (.int g1), (.int g2), (.int (1 : Int32))])), (b1, true, .inl ("java/util/BitSet", (BSs (.ref wd) (.int (0 : Int32)) (.int (0 : Int32))))), (wd, true, .inr (.long, [(.long (0 : Int64))])), (b5, true, .inr (.int, [(.int (0 : Int32)), (.int (x3_0 + (0 : Int32))), (.int (x3_1 + (x3_0 + (0 : Int32)))), (.int (x3_2 + (x3_1 + (x3_0 + (0 : Int32)))))])), (bgA, true, .inr (.int, bl2)), (b54, true, .inr (.int, [(.int q0), (.int q1), (.int q2), (.int y2_1)])), (fl, true, .inr (.int, [(.int y2_0), (.int (y2_1 + (1 : Int32))), (.int y2_2)]))] := R130
      refine Goes.blk A _ b1_179_1 (pc' := 181) (Ls' := #[.val (.ref cg), .val (.ref gr), .val (.int (3 : Int32)), .val .null, .val (.ref fl), .val (.int ((((0 : Int32) + (1 : Int32)) + (1 : Int32)) + (1 : Int32))), .val (.int (1 : Int32)), .val (.int (1 : Int32))]) (st' := [(.int (1 : Int32))]) rfl ?_
      refine Goes.if1 A d1_181 (by decide) (pc' := 198) (by decide) (fun hc => absurd hc (cP_f (by decide))) (fun hc131 => ?_)
      refine Goes.blk A _ b1_184_1 (pc' := 185) (Ls' := #[.val (.ref cg), .val (.ref gr), .val (.int (3 : Int32)), .val .null, .val (.ref fl), .val (.int ((((0 : Int32) + (1 : Int32)) + (1 : Int32)) + (1 : Int32))), .val (.int (1 : Int32)), .val (.int (1 : Int32))]) (st' := [(.ref cg)]) rfl ?_
      refine Goes.getF A (hw _ (List.mem_of_getElem? (i := 36) rfl)) Via.refl (R130.fld (i := 0) (j := 0) rfl rfl) d1_185 ?_
      refine Goes.blk A _ b1_188_1 (pc' := 189) (Ls' := #[.val (.ref cg), .val (.ref gr), .val (.int (3 : Int32)), .val .null, .val (.ref fl), .val (.int ((((0 : Int32) + (1 : Int32)) + (1 : Int32)) + (1 : Int32))), .val (.int (1 : Int32)), .val (.int (1 : Int32))]) (st' := [(.ref cg), (.ref bgA)]) rfl ?_
      refine Goes.getF A (hw _ (List.mem_of_getElem? (i := 38) rfl)) Via.refl (R130.fld (i := 0) (j := 2) rfl rfl) d1_189 ?_
      refine Goes.blk A _ b1_192_1 (pc' := 194) (Ls' := #[.val (.ref cg), .val (.ref gr), .val (.int (3 : Int32)), .val .null, .val (.ref fl), .val (.int ((((0 : Int32) + (1 : Int32)) + (1 : Int32)) + (1 : Int32))), .val (.int (1 : Int32)), .val (.int (1 : Int32))]) (st' := [(.int ((((0 : Int32) + (1 : Int32)) + (1 : Int32)) + (1 : Int32))), (.ref b54), (.ref bgA)]) rfl ?_
      refine Goes.iaload A R130 (i := 6) rfl (k := 3) (by decide) rfl d1_194 ?_
      refine Goes.blk A _ b1_195_1 (pc' := 197) (Ls' := #[.val (.ref cg), .val (.ref gr), .val (.int (3 : Int32)), .val .null, .val (.ref fl), .val (.int ((((0 : Int32) + (1 : Int32)) + (1 : Int32)) + (1 : Int32))), .val (.int (1 : Int32)), .val (.int (1 : Int32))]) (st' := [(.int ((((0 : Int32) + (1 : Int32)) + (1 : Int32)) + (1 : Int32))), (.int y2_1), (.ref bgA)]) rfl ?_
      have hb2 : 0 ≤ (y2_1).toInt ∧ (y2_1).toInt < (T3 g0 g1 g2 1).toInt := by have q9 := hb (by decide); subst_vars; exact q9
      refine Goes.iastore A R130 K130 (i := 5) rfl (Or.inr zs52) (k := (y2_1).toInt.toNat) (Int.toNat_of_nonneg hb2.1).symm (by rw [hlen]; omega) d1_197 (fun h132 K132 R132 => ?_)
      exact J119 _ _ _ _ _ _ rfl rfl rfl rfl rfl (by rw [stb_len]; exact hlen) K132 R132
    · skip
      refine Goes.if1 A d1_161 (by decide) (pc' := 168) (by decide) (fun hc133 => ?_) (fun hc => absurd (cP_t (by decide)) hc)
      refine Goes.blk A _ b1_168_3 (pc' := 173) (Ls' := #[.val (.ref cg), .val (.ref gr), .val (.int (3 : Int32)), .val .null, .val (.ref fl), .val (.int ((((0 : Int32) + (1 : Int32)) + (1 : Int32)) + (1 : Int32))), .val (.int (2 : Int32)), .val (.int (2 : Int32))]) (st' := [(.int (2 : Int32)), (.ref fl), (.int (2 : Int32)), (.ref fl), (.int ((((0 : Int32) + (1 : Int32)) + (1 : Int32)) + (1 : Int32))), (.ref b54)]) rfl ?_
      refine Goes.iaload A R99 (i := 7) rfl (k := 2) (by decide) rfl d1_173 ?_
      refine Goes.blk A _ b1_174_3 (pc' := 177) (Ls' := #[.val (.ref cg), .val (.ref gr), .val (.int (3 : Int32)), .val .null, .val (.ref fl), .val (.int ((((0 : Int32) + (1 : Int32)) + (1 : Int32)) + (1 : Int32))), .val (.int (2 : Int32)), .val (.int (2 : Int32))]) (st' := [(.int (y2_2 + (1 : Int32))), (.int (2 : Int32)), (.ref fl), (.int y2_2), (.int ((((0 : Int32) + (1 : Int32)) + (1 : Int32)) + (1 : Int32))), (.ref b54)]) rfl ?_
      refine Goes.iastore A R99 K99 (i := 7) rfl (Or.inr (Nat.le_trans K56.1 zt57_0)) (k := 2) (by decide) (Nat.le_of_ble_eq_true rfl) d1_177 (fun h134 K134 R134 => ?_)
      replace R134 : Rep Z a0 n0 h134 GB [(cg, true, .inl ("com/example/stillpoint/stillpoint/spec/CallGroups", (CGs (.ref bgA) (.ref b5) (.ref b54) (.ref b1) .null .null .null))), (gr, true, .inr (.int, [(.int g0), (.int g1), (.int g2), (.int (2 : Int32))])), (b1, true, .inl ("java/util/BitSet", (BSs (.ref wd) (.int (0 : Int32)) (.int (0 : Int32))))), (wd, true, .inr (.long, [(.long (0 : Int64))])), (b5, true, .inr (.int, [(.int (0 : Int32)), (.int (x3_0 + (0 : Int32))), (.int (x3_1 + (x3_0 + (0 : Int32)))), (.int (x3_2 + (x3_1 + (x3_0 + (0 : Int32)))))])), (bgA, true, .inr (.int, bl2)), (b54, true, .inr (.int, [(.int q0), (.int q1), (.int q2), (.int (0 : Int32))])), (fl, true, .inr (.int, [(.int y2_0), (.int y2_1), (.int (y2_2 + (1 : Int32)))]))] := R134
      refine Goes.iastore A R134 K134 (i := 6) rfl (Or.inr zs55) (k := 3) (by decide) (Nat.le_of_ble_eq_true rfl) d1_178 (fun h135 K135 R135 => ?_)
      replace R135 : Rep Z a0 n0 h135 GB [(cg, true, .inl ("com/example/stillpoint/stillpoint/spec/CallGroups", (CGs (.ref bgA) (.ref b5) (.ref b54) (.ref b1) .null .null .null))), (gr, true, .inr (.int, [(.int g0), (.int g1), (.int g2), (.int (2 : Int32))])), (b1, true, .inl ("java/util/BitSet", (BSs (.ref wd) (.int (0 : Int32)) (.int (0 : Int32))))), (wd, true, .inr (.long, [(.long (0 : Int64))])), (b5, true, .inr (.int, [(.int (0 : Int32)), (.int (x3_0 + (0 : Int32))), (.int (x3_1 + (x3_0 + (0 : Int32)))), (.int (x3_2 + (x3_1 + (x3_0 + (0 : Int32)))))])), (bgA, true, .inr (.int, bl2)), (b54, true, .inr (.int, [(.int q0), (.int q1), (.int q2), (.int y2_2)])), (fl, true, .inr (.int, [(.int y2_0), (.int y2_1), (.int (y2_2 + (1 : Int32)))]))] := R135
      refine Goes.blk A _ b1_179_1 (pc' := 181) (Ls' := #[.val (.ref cg), .val (.ref gr), .val (.int (3 : Int32)), .val .null, .val (.ref fl), .val (.int ((((0 : Int32) + (1 : Int32)) + (1 : Int32)) + (1 : Int32))), .val (.int (2 : Int32)), .val (.int (2 : Int32))]) (st' := [(.int (2 : Int32))]) rfl ?_
      refine Goes.if1 A d1_181 (by decide) (pc' := 198) (by decide) (fun hc => absurd hc (cP_f (by decide))) (fun hc136 => ?_)
      refine Goes.blk A _ b1_184_1 (pc' := 185) (Ls' := #[.val (.ref cg), .val (.ref gr), .val (.int (3 : Int32)), .val .null, .val (.ref fl), .val (.int ((((0 : Int32) + (1 : Int32)) + (1 : Int32)) + (1 : Int32))), .val (.int (2 : Int32)), .val (.int (2 : Int32))]) (st' := [(.ref cg)]) rfl ?_
      refine Goes.getF A (hw _ (List.mem_of_getElem? (i := 36) rfl)) Via.refl (R135.fld (i := 0) (j := 0) rfl rfl) d1_185 ?_
      refine Goes.blk A _ b1_188_1 (pc' := 189) (Ls' := #[.val (.ref cg), .val (.ref gr), .val (.int (3 : Int32)), .val .null, .val (.ref fl), .val (.int ((((0 : Int32) + (1 : Int32)) + (1 : Int32)) + (1 : Int32))), .val (.int (2 : Int32)), .val (.int (2 : Int32))]) (st' := [(.ref cg), (.ref bgA)]) rfl ?_
      refine Goes.getF A (hw _ (List.mem_of_getElem? (i := 38) rfl)) Via.refl (R135.fld (i := 0) (j := 2) rfl rfl) d1_189 ?_
      refine Goes.blk A _ b1_192_1 (pc' := 194) (Ls' := #[.val (.ref cg), .val (.ref gr), .val (.int (3 : Int32)), .val .null, .val (.ref fl), .val (.int ((((0 : Int32) + (1 : Int32)) + (1 : Int32)) + (1 : Int32))), .val (.int (2 : Int32)), .val (.int (2 : Int32))]) (st' := [(.int ((((0 : Int32) + (1 : Int32)) + (1 : Int32)) + (1 : Int32))), (.ref b54), (.ref bgA)]) rfl ?_
      refine Goes.iaload A R135 (i := 6) rfl (k := 3) (by decide) rfl d1_194 ?_
      refine Goes.blk A _ b1_195_1 (pc' := 197) (Ls' := #[.val (.ref cg), .val (.ref gr), .val (.int (3 : Int32)), .val .null, .val (.ref fl), .val (.int ((((0 : Int32) + (1 : Int32)) + (1 : Int32)) + (1 : Int32))), .val (.int (2 : Int32)), .val (.int (2 : Int32))]) (st' := [(.int ((((0 : Int32) + (1 : Int32)) + (1 : Int32)) + (1 : Int32))), (.int y2_2), (.ref bgA)]) rfl ?_
      have hb2 : 0 ≤ (y2_2).toInt ∧ (y2_2).toInt < (T3 g0 g1 g2 2).toInt := by have q9 := hb (by decide); subst_vars; exact q9
      refine Goes.iastore A R135 K135 (i := 5) rfl (Or.inr zs52) (k := (y2_2).toInt.toNat) (Int.toNat_of_nonneg hb2.1).symm (by rw [hlen]; omega) d1_197 (fun h137 K137 R137 => ?_)
      exact J119 _ _ _ _ _ _ rfl rfl rfl rfl rfl (by rw [stb_len]; exact hlen) K137 R137
  intro q3 y3_0 y3_1 y3_2 bl3 h119 e119_0 e119_1 e119_2 e119_3 e119_4 e119_5 K119 R119
  have hl3 := e119_5
  refine Goes.blk A _ b1_198_1 (pc' := 201) (Ls' := #[.val (.ref cg), .val (.ref gr), .val (.int (3 : Int32)), .val .null, .val (.ref fl), .val (.int (((((0 : Int32) + (1 : Int32)) + (1 : Int32)) + (1 : Int32)) + (1 : Int32))), .val (.int g3), .val (.int g3)]) (st' := []) rfl ?_
  refine Goes.jump A d1_201 (by decide) (pc' := 140) (by decide) ?_
  refine Goes.blk A _ b1_140_2 (pc' := 143) (Ls' := #[.val (.ref cg), .val (.ref gr), .val (.int (3 : Int32)), .val .null, .val (.ref fl), .val (.int (((((0 : Int32) + (1 : Int32)) + (1 : Int32)) + (1 : Int32)) + (1 : Int32))), .val (.int g3), .val (.int g3)]) (st' := [(.ref gr), (.int (((((0 : Int32) + (1 : Int32)) + (1 : Int32)) + (1 : Int32)) + (1 : Int32)))]) rfl ?_
  refine Goes.alen A R119 (i := 1) rfl (z := 4) (by rfl) d1_143 ?_
  refine Goes.if2 A d1_144 (by decide) (pc' := 204) (by decide) (fun hc138 => ?_) (fun hc => absurd (cP_t (by decide)) hc)
  refine Goes.blk A _ b1_204_1 (pc' := 205) (Ls' := #[.val (.ref cg), .val (.ref gr), .val (.int (3 : Int32)), .val .null, .val (.ref fl), .val (.int (((((0 : Int32) + (1 : Int32)) + (1 : Int32)) + (1 : Int32)) + (1 : Int32))), .val (.int g3), .val (.int g3)]) (st' := [(.ref cg)]) rfl ?_
  refine Goes.getF A (hw _ (List.mem_of_getElem? (i := 32) rfl)) Via.refl (R119.fld (i := 0) (j := 3) rfl rfl) d1_205 ?_
  refine Goes.blk A _ b1_208_2 (pc' := 210) (Ls' := #[.val (.ref cg), .val (.ref gr), .val (.int (3 : Int32)), .val .null, .val (.ref fl), .val (.int (((((0 : Int32) + (1 : Int32)) + (1 : Int32)) + (1 : Int32)) + (1 : Int32))), .val (.int g3), .val (.int g3)]) (st' := [(.ref cg), (.int (0 : Int32)), (.ref b1)]) rfl ?_
  refine Goes.getF A (hw _ (List.mem_of_getElem? (i := 36) rfl)) Via.refl (R119.fld (i := 0) (j := 0) rfl rfl) d1_210 ?_
  rcases (by omega : (T3 g0 g1 g2 g3).toInt.toNat = 0 ∨ (T3 g0 g1 g2 g3).toInt.toNat = 1 ∨ (T3 g0 g1 g2 g3).toInt.toNat = 2 ∨ (T3 g0 g1 g2 g3).toInt.toNat = 3 ∨ (T3 g0 g1 g2 g3).toInt.toNat = 4) with hn | hn | hn | hn | hn
  · skip
    refine Goes.alen A R119 (i := 5) rfl (z := 0) (by rw [hl3, hn]; rfl) d1_213 ?_
    refine Goes.virt A (hw _ (List.mem_of_getElem? (i := 52) rfl)) (hw _ (List.mem_of_getElem? (i := 53) rfl)) (hw _ (List.mem_of_getElem? (i := 55) rfl)) (hw _ (List.mem_of_getElem? (i := 55) rfl)) (hw _ (List.mem_of_getElem? (i := 54) rfl)) (hw _ (List.mem_of_getElem? (i := 12) rfl)) (hw _ (List.mem_of_getElem? (i := 56) rfl)) d1_214 pd_590433 (by decide) (R119.exa (i := 2) rfl) (argsL := [(.int (0 : Int32)), (.int (0 : Int32))]) (rest := []) rfl rfl rfl (W := 0) (Nat.le_of_ble_eq_true rfl) (by decide) (by decide) (by decide) (by decide) (kST0 l Z n0 a0 hw h119 (Nat.le_trans Z0 K119.1) b1 wd (R119.pick [0] [2, 3] rfl rfl (by decide))) (fun v h139 hh => ?_)
    obtain ⟨u, w1, hu, rfl, Kc139, Rc139⟩ := hh
    have R139 := R119.upd Kc139 [2, 3] Rc139 (Nat.le_of_ble_eq_true rfl) rfl [2, 3] rfl (by decide) al0
    have K139 := K119.trans Kc139 (alS (Or.inr zs2) (alS (Or.inr (Nat.le_trans K2.1 zt3_0)) al0))
    replace R139 : Rep Z a0 n0 h139 GB [(cg, true, .inl ("com/example/stillpoint/stillpoint/spec/CallGroups", (CGs (.ref bgA) (.ref b5) (.ref b54) (.ref b1) .null .null .null))), (gr, true, .inr (.int, [(.int g0), (.int g1), (.int g2), (.int g3)])), (b1, true, .inl ("java/util/BitSet", (BSs (.ref wd) (.int u) (.int (0 : Int32))))), (wd, true, .inr (.long, [(.long w1)])), (b5, true, .inr (.int, [(.int (0 : Int32)), (.int (x3_0 + (0 : Int32))), (.int (x3_1 + (x3_0 + (0 : Int32)))), (.int (x3_2 + (x3_1 + (x3_0 + (0 : Int32)))))])), (bgA, true, .inr (.int, bl3)), (b54, true, .inr (.int, [(.int q0), (.int q1), (.int q2), (.int q3)])), (fl, true, .inr (.int, [(.int y3_0), (.int y3_1), (.int y3_2)]))] := R139
    show Goes p l e _ s m _ below meth c n0 _ h139 6 19 217 #[.val (.ref cg), .val (.ref gr), .val (.int (3 : Int32)), .val .null, .val (.ref fl), .val (.int (((((0 : Int32) + (1 : Int32)) + (1 : Int32)) + (1 : Int32)) + (1 : Int32))), .val (.int g3), .val (.int g3)] []
    refine Goes.blk A _ b1_217_2 (pc' := 219) (Ls' := #[.val (.ref cg), .val (.ref gr), .val (.int (3 : Int32)), .val .null, .val (.ref fl), .val (.int (((((0 : Int32) + (1 : Int32)) + (1 : Int32)) + (1 : Int32)) + (1 : Int32))), .val (.int g3), .val (.int g3)]) (st' := [.null, (.ref cg)]) rfl ?_
    refine Goes.put A (hw _ (List.mem_of_getElem? (i := 77) rfl)) Via.refl R139 K139 (i := 0) (j := 4) rfl rfl (Or.inl (List.mem_of_getElem? (i := 0) rfl)) (Or.inr ⟨(hw _ (List.mem_of_getElem? (i := 78) rfl)), rfl, hnm⟩) (hw _ (List.mem_of_getElem? (i := 2) rfl)) (ty := (.array .int)) (by decide) rfl rfl d1_219 (fun h140 K140 R140 => ?_)
    replace R140 : Rep Z a0 n0 h140 GB [(cg, true, .inl ("com/example/stillpoint/stillpoint/spec/CallGroups", (CGs (.ref bgA) (.ref b5) (.ref b54) (.ref b1) .null .null .null))), (gr, true, .inr (.int, [(.int g0), (.int g1), (.int g2), (.int g3)])), (b1, true, .inl ("java/util/BitSet", (BSs (.ref wd) (.int u) (.int (0 : Int32))))), (wd, true, .inr (.long, [(.long w1)])), (b5, true, .inr (.int, [(.int (0 : Int32)), (.int (x3_0 + (0 : Int32))), (.int (x3_1 + (x3_0 + (0 : Int32)))), (.int (x3_2 + (x3_1 + (x3_0 + (0 : Int32)))))])), (bgA, true, .inr (.int, bl3)), (b54, true, .inr (.int, [(.int q0), (.int q1), (.int q2), (.int q3)])), (fl, true, .inr (.int, [(.int y3_0), (.int y3_1), (.int y3_2)]))] := R140
    exact Goes.retV A hret hlk d1_222 (by decide) (by decide) ⟨_, _, _, _, _, _, _, _, _, _, _, hu, rfl, zs2, (Nat.le_trans K2.1 zt3_0), zs6, zs52, zs55, (Nat.le_trans K56.1 zt57_0), K140, by subst_vars; exact R140⟩
  · skip
    refine Goes.alen A R119 (i := 5) rfl (z := 1) (by rw [hl3, hn]; rfl) d1_213 ?_
    refine Goes.virt A (hw _ (List.mem_of_getElem? (i := 52) rfl)) (hw _ (List.mem_of_getElem? (i := 53) rfl)) (hw _ (List.mem_of_getElem? (i := 55) rfl)) (hw _ (List.mem_of_getElem? (i := 55) rfl)) (hw _ (List.mem_of_getElem? (i := 54) rfl)) (hw _ (List.mem_of_getElem? (i := 12) rfl)) (hw _ (List.mem_of_getElem? (i := 56) rfl)) d1_214 pd_590433 (by decide) (R119.exa (i := 2) rfl) (argsL := [(.int (0 : Int32)), (.int (1 : Int32))]) (rest := []) rfl rfl rfl (W := 0) (Nat.le_of_ble_eq_true rfl) (by decide) (by decide) (by decide) (by decide) (kST1 l Z n0 a0 hw h119 (Nat.le_trans Z0 K119.1) b1 wd (R119.pick [0] [2, 3] rfl rfl (by decide))) (fun v h141 hh => ?_)
    obtain ⟨u, w1, hu, rfl, Kc141, Rc141⟩ := hh
    have R141 := R119.upd Kc141 [2, 3] Rc141 (Nat.le_of_ble_eq_true rfl) rfl [2, 3] rfl (by decide) al0
    have K141 := K119.trans Kc141 (alS (Or.inr zs2) (alS (Or.inr (Nat.le_trans K2.1 zt3_0)) al0))
    replace R141 : Rep Z a0 n0 h141 GB [(cg, true, .inl ("com/example/stillpoint/stillpoint/spec/CallGroups", (CGs (.ref bgA) (.ref b5) (.ref b54) (.ref b1) .null .null .null))), (gr, true, .inr (.int, [(.int g0), (.int g1), (.int g2), (.int g3)])), (b1, true, .inl ("java/util/BitSet", (BSs (.ref wd) (.int u) (.int (0 : Int32))))), (wd, true, .inr (.long, [(.long w1)])), (b5, true, .inr (.int, [(.int (0 : Int32)), (.int (x3_0 + (0 : Int32))), (.int (x3_1 + (x3_0 + (0 : Int32)))), (.int (x3_2 + (x3_1 + (x3_0 + (0 : Int32)))))])), (bgA, true, .inr (.int, bl3)), (b54, true, .inr (.int, [(.int q0), (.int q1), (.int q2), (.int q3)])), (fl, true, .inr (.int, [(.int y3_0), (.int y3_1), (.int y3_2)]))] := R141
    show Goes p l e _ s m _ below meth c n0 _ h141 6 19 217 #[.val (.ref cg), .val (.ref gr), .val (.int (3 : Int32)), .val .null, .val (.ref fl), .val (.int (((((0 : Int32) + (1 : Int32)) + (1 : Int32)) + (1 : Int32)) + (1 : Int32))), .val (.int g3), .val (.int g3)] []
    refine Goes.blk A _ b1_217_2 (pc' := 219) (Ls' := #[.val (.ref cg), .val (.ref gr), .val (.int (3 : Int32)), .val .null, .val (.ref fl), .val (.int (((((0 : Int32) + (1 : Int32)) + (1 : Int32)) + (1 : Int32)) + (1 : Int32))), .val (.int g3), .val (.int g3)]) (st' := [.null, (.ref cg)]) rfl ?_
    refine Goes.put A (hw _ (List.mem_of_getElem? (i := 77) rfl)) Via.refl R141 K141 (i := 0) (j := 4) rfl rfl (Or.inl (List.mem_of_getElem? (i := 0) rfl)) (Or.inr ⟨(hw _ (List.mem_of_getElem? (i := 78) rfl)), rfl, hnm⟩) (hw _ (List.mem_of_getElem? (i := 2) rfl)) (ty := (.array .int)) (by decide) rfl rfl d1_219 (fun h142 K142 R142 => ?_)
    replace R142 : Rep Z a0 n0 h142 GB [(cg, true, .inl ("com/example/stillpoint/stillpoint/spec/CallGroups", (CGs (.ref bgA) (.ref b5) (.ref b54) (.ref b1) .null .null .null))), (gr, true, .inr (.int, [(.int g0), (.int g1), (.int g2), (.int g3)])), (b1, true, .inl ("java/util/BitSet", (BSs (.ref wd) (.int u) (.int (0 : Int32))))), (wd, true, .inr (.long, [(.long w1)])), (b5, true, .inr (.int, [(.int (0 : Int32)), (.int (x3_0 + (0 : Int32))), (.int (x3_1 + (x3_0 + (0 : Int32)))), (.int (x3_2 + (x3_1 + (x3_0 + (0 : Int32)))))])), (bgA, true, .inr (.int, bl3)), (b54, true, .inr (.int, [(.int q0), (.int q1), (.int q2), (.int q3)])), (fl, true, .inr (.int, [(.int y3_0), (.int y3_1), (.int y3_2)]))] := R142
    exact Goes.retV A hret hlk d1_222 (by decide) (by decide) ⟨_, _, _, _, _, _, _, _, _, _, _, hu, rfl, zs2, (Nat.le_trans K2.1 zt3_0), zs6, zs52, zs55, (Nat.le_trans K56.1 zt57_0), K142, by subst_vars; exact R142⟩
  · skip
    refine Goes.alen A R119 (i := 5) rfl (z := 2) (by rw [hl3, hn]; rfl) d1_213 ?_
    refine Goes.virt A (hw _ (List.mem_of_getElem? (i := 52) rfl)) (hw _ (List.mem_of_getElem? (i := 53) rfl)) (hw _ (List.mem_of_getElem? (i := 55) rfl)) (hw _ (List.mem_of_getElem? (i := 55) rfl)) (hw _ (List.mem_of_getElem? (i := 54) rfl)) (hw _ (List.mem_of_getElem? (i := 12) rfl)) (hw _ (List.mem_of_getElem? (i := 56) rfl)) d1_214 pd_590433 (by decide) (R119.exa (i := 2) rfl) (argsL := [(.int (0 : Int32)), (.int (2 : Int32))]) (rest := []) rfl rfl rfl (W := 0) (Nat.le_of_ble_eq_true rfl) (by decide) (by decide) (by decide) (by decide) (kST2 l Z n0 a0 hw h119 (Nat.le_trans Z0 K119.1) b1 wd (R119.pick [0] [2, 3] rfl rfl (by decide))) (fun v h143 hh => ?_)
    obtain ⟨u, w1, hu, rfl, Kc143, Rc143⟩ := hh
    have R143 := R119.upd Kc143 [2, 3] Rc143 (Nat.le_of_ble_eq_true rfl) rfl [2, 3] rfl (by decide) al0
    have K143 := K119.trans Kc143 (alS (Or.inr zs2) (alS (Or.inr (Nat.le_trans K2.1 zt3_0)) al0))
    replace R143 : Rep Z a0 n0 h143 GB [(cg, true, .inl ("com/example/stillpoint/stillpoint/spec/CallGroups", (CGs (.ref bgA) (.ref b5) (.ref b54) (.ref b1) .null .null .null))), (gr, true, .inr (.int, [(.int g0), (.int g1), (.int g2), (.int g3)])), (b1, true, .inl ("java/util/BitSet", (BSs (.ref wd) (.int u) (.int (0 : Int32))))), (wd, true, .inr (.long, [(.long w1)])), (b5, true, .inr (.int, [(.int (0 : Int32)), (.int (x3_0 + (0 : Int32))), (.int (x3_1 + (x3_0 + (0 : Int32)))), (.int (x3_2 + (x3_1 + (x3_0 + (0 : Int32)))))])), (bgA, true, .inr (.int, bl3)), (b54, true, .inr (.int, [(.int q0), (.int q1), (.int q2), (.int q3)])), (fl, true, .inr (.int, [(.int y3_0), (.int y3_1), (.int y3_2)]))] := R143
    show Goes p l e _ s m _ below meth c n0 _ h143 6 19 217 #[.val (.ref cg), .val (.ref gr), .val (.int (3 : Int32)), .val .null, .val (.ref fl), .val (.int (((((0 : Int32) + (1 : Int32)) + (1 : Int32)) + (1 : Int32)) + (1 : Int32))), .val (.int g3), .val (.int g3)] []
    refine Goes.blk A _ b1_217_2 (pc' := 219) (Ls' := #[.val (.ref cg), .val (.ref gr), .val (.int (3 : Int32)), .val .null, .val (.ref fl), .val (.int (((((0 : Int32) + (1 : Int32)) + (1 : Int32)) + (1 : Int32)) + (1 : Int32))), .val (.int g3), .val (.int g3)]) (st' := [.null, (.ref cg)]) rfl ?_
    refine Goes.put A (hw _ (List.mem_of_getElem? (i := 77) rfl)) Via.refl R143 K143 (i := 0) (j := 4) rfl rfl (Or.inl (List.mem_of_getElem? (i := 0) rfl)) (Or.inr ⟨(hw _ (List.mem_of_getElem? (i := 78) rfl)), rfl, hnm⟩) (hw _ (List.mem_of_getElem? (i := 2) rfl)) (ty := (.array .int)) (by decide) rfl rfl d1_219 (fun h144 K144 R144 => ?_)
    replace R144 : Rep Z a0 n0 h144 GB [(cg, true, .inl ("com/example/stillpoint/stillpoint/spec/CallGroups", (CGs (.ref bgA) (.ref b5) (.ref b54) (.ref b1) .null .null .null))), (gr, true, .inr (.int, [(.int g0), (.int g1), (.int g2), (.int g3)])), (b1, true, .inl ("java/util/BitSet", (BSs (.ref wd) (.int u) (.int (0 : Int32))))), (wd, true, .inr (.long, [(.long w1)])), (b5, true, .inr (.int, [(.int (0 : Int32)), (.int (x3_0 + (0 : Int32))), (.int (x3_1 + (x3_0 + (0 : Int32)))), (.int (x3_2 + (x3_1 + (x3_0 + (0 : Int32)))))])), (bgA, true, .inr (.int, bl3)), (b54, true, .inr (.int, [(.int q0), (.int q1), (.int q2), (.int q3)])), (fl, true, .inr (.int, [(.int y3_0), (.int y3_1), (.int y3_2)]))] := R144
    exact Goes.retV A hret hlk d1_222 (by decide) (by decide) ⟨_, _, _, _, _, _, _, _, _, _, _, hu, rfl, zs2, (Nat.le_trans K2.1 zt3_0), zs6, zs52, zs55, (Nat.le_trans K56.1 zt57_0), K144, by subst_vars; exact R144⟩
  · skip
    refine Goes.alen A R119 (i := 5) rfl (z := 3) (by rw [hl3, hn]; rfl) d1_213 ?_
    refine Goes.virt A (hw _ (List.mem_of_getElem? (i := 52) rfl)) (hw _ (List.mem_of_getElem? (i := 53) rfl)) (hw _ (List.mem_of_getElem? (i := 55) rfl)) (hw _ (List.mem_of_getElem? (i := 55) rfl)) (hw _ (List.mem_of_getElem? (i := 54) rfl)) (hw _ (List.mem_of_getElem? (i := 12) rfl)) (hw _ (List.mem_of_getElem? (i := 56) rfl)) d1_214 pd_590433 (by decide) (R119.exa (i := 2) rfl) (argsL := [(.int (0 : Int32)), (.int (3 : Int32))]) (rest := []) rfl rfl rfl (W := 0) (Nat.le_of_ble_eq_true rfl) (by decide) (by decide) (by decide) (by decide) (kST3 l Z n0 a0 hw h119 (Nat.le_trans Z0 K119.1) b1 wd (R119.pick [0] [2, 3] rfl rfl (by decide))) (fun v h145 hh => ?_)
    obtain ⟨u, w1, hu, rfl, Kc145, Rc145⟩ := hh
    have R145 := R119.upd Kc145 [2, 3] Rc145 (Nat.le_of_ble_eq_true rfl) rfl [2, 3] rfl (by decide) al0
    have K145 := K119.trans Kc145 (alS (Or.inr zs2) (alS (Or.inr (Nat.le_trans K2.1 zt3_0)) al0))
    replace R145 : Rep Z a0 n0 h145 GB [(cg, true, .inl ("com/example/stillpoint/stillpoint/spec/CallGroups", (CGs (.ref bgA) (.ref b5) (.ref b54) (.ref b1) .null .null .null))), (gr, true, .inr (.int, [(.int g0), (.int g1), (.int g2), (.int g3)])), (b1, true, .inl ("java/util/BitSet", (BSs (.ref wd) (.int u) (.int (0 : Int32))))), (wd, true, .inr (.long, [(.long w1)])), (b5, true, .inr (.int, [(.int (0 : Int32)), (.int (x3_0 + (0 : Int32))), (.int (x3_1 + (x3_0 + (0 : Int32)))), (.int (x3_2 + (x3_1 + (x3_0 + (0 : Int32)))))])), (bgA, true, .inr (.int, bl3)), (b54, true, .inr (.int, [(.int q0), (.int q1), (.int q2), (.int q3)])), (fl, true, .inr (.int, [(.int y3_0), (.int y3_1), (.int y3_2)]))] := R145
    show Goes p l e _ s m _ below meth c n0 _ h145 6 19 217 #[.val (.ref cg), .val (.ref gr), .val (.int (3 : Int32)), .val .null, .val (.ref fl), .val (.int (((((0 : Int32) + (1 : Int32)) + (1 : Int32)) + (1 : Int32)) + (1 : Int32))), .val (.int g3), .val (.int g3)] []
    refine Goes.blk A _ b1_217_2 (pc' := 219) (Ls' := #[.val (.ref cg), .val (.ref gr), .val (.int (3 : Int32)), .val .null, .val (.ref fl), .val (.int (((((0 : Int32) + (1 : Int32)) + (1 : Int32)) + (1 : Int32)) + (1 : Int32))), .val (.int g3), .val (.int g3)]) (st' := [.null, (.ref cg)]) rfl ?_
    refine Goes.put A (hw _ (List.mem_of_getElem? (i := 77) rfl)) Via.refl R145 K145 (i := 0) (j := 4) rfl rfl (Or.inl (List.mem_of_getElem? (i := 0) rfl)) (Or.inr ⟨(hw _ (List.mem_of_getElem? (i := 78) rfl)), rfl, hnm⟩) (hw _ (List.mem_of_getElem? (i := 2) rfl)) (ty := (.array .int)) (by decide) rfl rfl d1_219 (fun h146 K146 R146 => ?_)
    replace R146 : Rep Z a0 n0 h146 GB [(cg, true, .inl ("com/example/stillpoint/stillpoint/spec/CallGroups", (CGs (.ref bgA) (.ref b5) (.ref b54) (.ref b1) .null .null .null))), (gr, true, .inr (.int, [(.int g0), (.int g1), (.int g2), (.int g3)])), (b1, true, .inl ("java/util/BitSet", (BSs (.ref wd) (.int u) (.int (0 : Int32))))), (wd, true, .inr (.long, [(.long w1)])), (b5, true, .inr (.int, [(.int (0 : Int32)), (.int (x3_0 + (0 : Int32))), (.int (x3_1 + (x3_0 + (0 : Int32)))), (.int (x3_2 + (x3_1 + (x3_0 + (0 : Int32)))))])), (bgA, true, .inr (.int, bl3)), (b54, true, .inr (.int, [(.int q0), (.int q1), (.int q2), (.int q3)])), (fl, true, .inr (.int, [(.int y3_0), (.int y3_1), (.int y3_2)]))] := R146
    exact Goes.retV A hret hlk d1_222 (by decide) (by decide) ⟨_, _, _, _, _, _, _, _, _, _, _, hu, rfl, zs2, (Nat.le_trans K2.1 zt3_0), zs6, zs52, zs55, (Nat.le_trans K56.1 zt57_0), K146, by subst_vars; exact R146⟩
  · skip
    refine Goes.alen A R119 (i := 5) rfl (z := 4) (by rw [hl3, hn]; rfl) d1_213 ?_
    refine Goes.virt A (hw _ (List.mem_of_getElem? (i := 52) rfl)) (hw _ (List.mem_of_getElem? (i := 53) rfl)) (hw _ (List.mem_of_getElem? (i := 55) rfl)) (hw _ (List.mem_of_getElem? (i := 55) rfl)) (hw _ (List.mem_of_getElem? (i := 54) rfl)) (hw _ (List.mem_of_getElem? (i := 12) rfl)) (hw _ (List.mem_of_getElem? (i := 56) rfl)) d1_214 pd_590433 (by decide) (R119.exa (i := 2) rfl) (argsL := [(.int (0 : Int32)), (.int (4 : Int32))]) (rest := []) rfl rfl rfl (W := 0) (Nat.le_of_ble_eq_true rfl) (by decide) (by decide) (by decide) (by decide) (kST4 l Z n0 a0 hw h119 (Nat.le_trans Z0 K119.1) b1 wd (R119.pick [0] [2, 3] rfl rfl (by decide))) (fun v h147 hh => ?_)
    obtain ⟨u, w1, hu, rfl, Kc147, Rc147⟩ := hh
    have R147 := R119.upd Kc147 [2, 3] Rc147 (Nat.le_of_ble_eq_true rfl) rfl [2, 3] rfl (by decide) al0
    have K147 := K119.trans Kc147 (alS (Or.inr zs2) (alS (Or.inr (Nat.le_trans K2.1 zt3_0)) al0))
    replace R147 : Rep Z a0 n0 h147 GB [(cg, true, .inl ("com/example/stillpoint/stillpoint/spec/CallGroups", (CGs (.ref bgA) (.ref b5) (.ref b54) (.ref b1) .null .null .null))), (gr, true, .inr (.int, [(.int g0), (.int g1), (.int g2), (.int g3)])), (b1, true, .inl ("java/util/BitSet", (BSs (.ref wd) (.int u) (.int (0 : Int32))))), (wd, true, .inr (.long, [(.long w1)])), (b5, true, .inr (.int, [(.int (0 : Int32)), (.int (x3_0 + (0 : Int32))), (.int (x3_1 + (x3_0 + (0 : Int32)))), (.int (x3_2 + (x3_1 + (x3_0 + (0 : Int32)))))])), (bgA, true, .inr (.int, bl3)), (b54, true, .inr (.int, [(.int q0), (.int q1), (.int q2), (.int q3)])), (fl, true, .inr (.int, [(.int y3_0), (.int y3_1), (.int y3_2)]))] := R147
    show Goes p l e _ s m _ below meth c n0 _ h147 6 19 217 #[.val (.ref cg), .val (.ref gr), .val (.int (3 : Int32)), .val .null, .val (.ref fl), .val (.int (((((0 : Int32) + (1 : Int32)) + (1 : Int32)) + (1 : Int32)) + (1 : Int32))), .val (.int g3), .val (.int g3)] []
    refine Goes.blk A _ b1_217_2 (pc' := 219) (Ls' := #[.val (.ref cg), .val (.ref gr), .val (.int (3 : Int32)), .val .null, .val (.ref fl), .val (.int (((((0 : Int32) + (1 : Int32)) + (1 : Int32)) + (1 : Int32)) + (1 : Int32))), .val (.int g3), .val (.int g3)]) (st' := [.null, (.ref cg)]) rfl ?_
    refine Goes.put A (hw _ (List.mem_of_getElem? (i := 77) rfl)) Via.refl R147 K147 (i := 0) (j := 4) rfl rfl (Or.inl (List.mem_of_getElem? (i := 0) rfl)) (Or.inr ⟨(hw _ (List.mem_of_getElem? (i := 78) rfl)), rfl, hnm⟩) (hw _ (List.mem_of_getElem? (i := 2) rfl)) (ty := (.array .int)) (by decide) rfl rfl d1_219 (fun h148 K148 R148 => ?_)
    replace R148 : Rep Z a0 n0 h148 GB [(cg, true, .inl ("com/example/stillpoint/stillpoint/spec/CallGroups", (CGs (.ref bgA) (.ref b5) (.ref b54) (.ref b1) .null .null .null))), (gr, true, .inr (.int, [(.int g0), (.int g1), (.int g2), (.int g3)])), (b1, true, .inl ("java/util/BitSet", (BSs (.ref wd) (.int u) (.int (0 : Int32))))), (wd, true, .inr (.long, [(.long w1)])), (b5, true, .inr (.int, [(.int (0 : Int32)), (.int (x3_0 + (0 : Int32))), (.int (x3_1 + (x3_0 + (0 : Int32)))), (.int (x3_2 + (x3_1 + (x3_0 + (0 : Int32)))))])), (bgA, true, .inr (.int, bl3)), (b54, true, .inr (.int, [(.int q0), (.int q1), (.int q2), (.int q3)])), (fl, true, .inr (.int, [(.int y3_0), (.int y3_1), (.int y3_2)]))] := R148
    exact Goes.retV A hret hlk d1_222 (by decide) (by decide) ⟨_, _, _, _, _, _, _, _, _, _, _, hu, rfl, zs2, (Nat.le_trans K2.1 zt3_0), zs6, zs52, zs55, (Nat.le_trans K56.1 zt57_0), K148, by subst_vars; exact R148⟩
set_option maxRecDepth 65536 in
set_option maxHeartbeats 40000000 in
theorem k0 (l : Launch) (Z : State) (n0 : Nat) (a0 : Array Value) (hw : ∀ d ∈ tables_1, d.before a0 Z = true) (h : Heap) (Z0 : n0 ≤ h.size) (p1 p2 p3 p4 : Int32) (R : Rep Z a0 n0 h GB []) : Con l Z n0 x code maxLocals ret room_1 #[(.int p1), (.int p2), (.int p3), (.int p4)] h (fun v _ => v = some (.int 1)) := by
  refine Con.mk (Ls := #[.val (.int p1), .val (.int p2), .val (.int p3), .val (.int p4), .unset, .unset, .unset, .unset, .unset]) (plainFor_of_name pn_com_example_stillpoint_stillpoint_spec_CallGroupsCallAfterPinLaw) (ef0_iiii p1 p2 p3 p4) ?_
  intro p e s m below meth c A hret hlk hnm
  have K : Keep h h [] := Keep.refl _ _
  obtain ⟨g0, ge0⟩ : ∃ g, ((p1 &&& (3 : Int32)) - (1 : Int32)) = g := ⟨_, rfl⟩
  have hg0 := own_g p1
  rw [ge0] at hg0
  obtain ⟨g1, ge1⟩ : ∃ g, (((XT.ushr p1 (2 : Int32)) &&& (3 : Int32)) - (1 : Int32)) = g := ⟨_, rfl⟩
  have hg1 := own_g (XT.ushr p1 (2 : Int32))
  rw [ge1] at hg1
  obtain ⟨g2, ge2⟩ : ∃ g, (((XT.ushr p1 (4 : Int32)) &&& (3 : Int32)) - (1 : Int32)) = g := ⟨_, rfl⟩
  have hg2 := own_g (XT.ushr p1 (4 : Int32))
  rw [ge2] at hg2
  obtain ⟨g3, ge3⟩ : ∃ g, (((XT.ushr p1 (6 : Int32)) &&& (3 : Int32)) - (1 : Int32)) = g := ⟨_, rfl⟩
  have hg3 := own_g (XT.ushr p1 (6 : Int32))
  rw [ge3] at hg3
  have hPu : pureB g0 g1 g2 g3 = true := by
    obtain ⟨i0, z0⟩ := gv_of hg0; obtain ⟨i1, z1⟩ := gv_of hg1; obtain ⟨i2, z2⟩ := gv_of hg2; obtain ⟨i3, z3⟩ := gv_of hg3
    rw [z0, z1, z2, z3]; exact pure_all i0 i1 i2 i3
  have hk8 : 0 ≤ (p3 &&& (7 : Int32)).toInt ∧ (p3 &&& (7 : Int32)).toInt < 8 := by have q := c_and p3 7 (by decide); have e7 : (7 : Int32).toInt = 7 := (by decide); omega
  refine Goes.blk A _ b0_0_1 (pc' := 1) (Ls' := #[.val (.int p1), .val (.int p2), .val (.int p3), .val (.int p4), .unset, .unset, .unset, .unset, .unset]) (st' := [(.int (4 : Int32))]) rfl ?_
  refine Goes.newArr A (hw _ (List.mem_of_getElem? (i := 0) rfl)) R K Z0 at_1 (k := 4) (by decide) (cap := 4) (by decide) (by decide) (by decide) (by decide) (fun b1 h2 zs2 zt2 K2 R2 => ?_)
  replace R2 : Rep Z a0 n0 h2 GB [(b1, true, .inr (.int, [(.int (0 : Int32)), (.int (0 : Int32)), (.int (0 : Int32)), (.int (0 : Int32))]))] := R2
  show Goes p l e _ s m _ below meth c n0 _ h2 1 4 3 #[.val (.int p1), .val (.int p2), .val (.int p3), .val (.int p4), .unset, .unset, .unset, .unset, .unset] [(.ref b1)]
  refine Goes.blk A _ b0_3_8 (pc' := 13) (Ls' := #[.val (.int p1), .val (.int p2), .val (.int p3), .val (.int p4), .val (.ref b1), .unset, .unset, .unset, .unset]) (st' := [(.int ((p1 &&& (3 : Int32)) - (1 : Int32))), (.int (0 : Int32)), (.ref b1)]) rfl ?_
  rw [ge0]
  refine Goes.iastore A R2 K2 (i := 0) rfl (Or.inr zs2) (k := 0) (by decide) (Nat.le_of_ble_eq_true rfl) at_13 (fun h3 K3 R3 => ?_)
  replace R3 : Rep Z a0 n0 h3 GB [(b1, true, .inr (.int, [(.int g0), (.int (0 : Int32)), (.int (0 : Int32)), (.int (0 : Int32))]))] := R3
  refine Goes.blk A _ b0_14_9 (pc' := 24) (Ls' := #[.val (.int p1), .val (.int p2), .val (.int p3), .val (.int p4), .val (.ref b1), .unset, .unset, .unset, .unset]) (st' := [(.int (((XT.ushr p1 (2 : Int32)) &&& (3 : Int32)) - (1 : Int32))), (.int (1 : Int32)), (.ref b1)]) rfl ?_
  rw [ge1]
  refine Goes.iastore A R3 K3 (i := 0) rfl (Or.inr zs2) (k := 1) (by decide) (Nat.le_of_ble_eq_true rfl) at_24 (fun h4 K4 R4 => ?_)
  replace R4 : Rep Z a0 n0 h4 GB [(b1, true, .inr (.int, [(.int g0), (.int g1), (.int (0 : Int32)), (.int (0 : Int32))]))] := R4
  refine Goes.blk A _ b0_25_9 (pc' := 35) (Ls' := #[.val (.int p1), .val (.int p2), .val (.int p3), .val (.int p4), .val (.ref b1), .unset, .unset, .unset, .unset]) (st' := [(.int (((XT.ushr p1 (4 : Int32)) &&& (3 : Int32)) - (1 : Int32))), (.int (2 : Int32)), (.ref b1)]) rfl ?_
  rw [ge2]
  refine Goes.iastore A R4 K4 (i := 0) rfl (Or.inr zs2) (k := 2) (by decide) (Nat.le_of_ble_eq_true rfl) at_35 (fun h5 K5 R5 => ?_)
  replace R5 : Rep Z a0 n0 h5 GB [(b1, true, .inr (.int, [(.int g0), (.int g1), (.int g2), (.int (0 : Int32))]))] := R5
  refine Goes.blk A _ b0_36_9 (pc' := 47) (Ls' := #[.val (.int p1), .val (.int p2), .val (.int p3), .val (.int p4), .val (.ref b1), .unset, .unset, .unset, .unset]) (st' := [(.int (((XT.ushr p1 (6 : Int32)) &&& (3 : Int32)) - (1 : Int32))), (.int (3 : Int32)), (.ref b1)]) rfl ?_
  rw [ge3]
  refine Goes.iastore A R5 K5 (i := 0) rfl (Or.inr zs2) (k := 3) (by decide) (Nat.le_of_ble_eq_true rfl) at_47 (fun h6 K6 R6 => ?_)
  replace R6 : Rep Z a0 n0 h6 GB [(b1, true, .inr (.int, [(.int g0), (.int g1), (.int g2), (.int g3)]))] := R6
  refine Goes.blk A _ b0_48_6 (pc' := 57) (Ls' := #[.val (.int p1), .val (.int p2), .val (.int p3), .val (.int p4), .val (.ref b1), .val (.int (p2 &&& (3 : Int32))), .unset, .unset, .unset]) (st' := [(.int (p2 &&& (3 : Int32))), (.ref b1)]) rfl ?_
  rcases own_mask3 p2 with hcl | hcl | hcl | hcl
  · skip
    rw [hcl]
    refine Goes.iaload A R6 (i := 0) rfl (k := 0) (by decide) rfl at_57 ?_
    refine Goes.blk A _ b0_58_2 (pc' := 62) (Ls' := #[.val (.int p1), .val (.int p2), .val (.int p3), .val (.int p4), .val (.ref b1), .val (.int (0 : Int32)), .val (.int g0), .unset, .unset]) (st' := [(.int g0)]) rfl ?_
    refine Goes.if1 A at_62 (by decide) (pc' := 67) (by decide) (fun hc7 => ?_) (fun hc7 => ?_)
    · skip
      have hne : ¬ g0 = -1 := by intro q; have q9 := cP_int hc7; rw [q] at q9; simp only [cI] at q9; revert q9; decide
      refine Goes.blk A _ b0_67_4 (pc' := 73) (Ls' := #[.val (.int p1), .val (.int p2), .val (.int p3), .val (.int p4), .val (.ref b1), .val (.int (0 : Int32)), .val (.int g0), .val (.int (p3 &&& (7 : Int32))), .unset]) (st' := []) rfl ?_
      refine Goes.newObj A (hw _ (List.mem_of_getElem? (i := 1) rfl)) (hw _ (List.mem_of_getElem? (i := 2) rfl)) (hw _ (List.mem_of_getElem? (i := 3) rfl)) R6 K6 Z0 (fs := (CGs .null .null .null .null .null .null .null)) ⟨⟨Or.inr (hw _ (List.mem_of_getElem? (i := 37) rfl)), (.array .int), by decide, rfl⟩, ⟨Or.inr (hw _ (List.mem_of_getElem? (i := 35) rfl)), (.array .int), by decide, rfl⟩, ⟨Or.inr (hw _ (List.mem_of_getElem? (i := 39) rfl)), (.array .int), by decide, rfl⟩, ⟨Or.inr (hw _ (List.mem_of_getElem? (i := 33) rfl)), (.object "java/util/BitSet"), by decide, rfl⟩, ⟨Or.inr (hw _ (List.mem_of_getElem? (i := 78) rfl)), (.array .int), by decide, rfl⟩, ⟨Or.inl (hw _ (List.mem_of_getElem? (i := 108) rfl)), (.array .int), by decide, rfl⟩, ⟨Or.inl (hw _ (List.mem_of_getElem? (i := 110) rfl)), (.array .int), by decide, rfl⟩, trivial⟩ (by decide) at_73 (by decide) (by decide) (fun b8 h9 zs9 zt9 K9 R9 => ?_)
      replace R9 : Rep Z a0 n0 h9 GB [(b1, true, .inr (.int, [(.int g0), (.int g1), (.int g2), (.int g3)])), (b8, true, .inl ("com/example/stillpoint/stillpoint/spec/CallGroups", (CGs .null .null .null .null .null .null .null)))] := R9
      show Goes p l e _ s m _ below meth c n0 _ h9 2 15 76 #[.val (.int p1), .val (.int p2), .val (.int p3), .val (.int p4), .val (.ref b1), .val (.int (0 : Int32)), .val (.int g0), .val (.int (p3 &&& (7 : Int32))), .unset] [(.ref b8)]
      refine Goes.blk A _ b0_76_4 (pc' := 81) (Ls' := #[.val (.int p1), .val (.int p2), .val (.int p3), .val (.int p4), .val (.ref b1), .val (.int (0 : Int32)), .val (.int g0), .val (.int (p3 &&& (7 : Int32))), .unset]) (st' := [.null, (.int (3 : Int32)), (.ref b1), (.ref b8), (.ref b8)]) rfl ?_
      refine Goes.spec A rfl (hw _ (List.mem_of_getElem? (i := 4) rfl)) (hw _ (List.mem_of_getElem? (i := 5) rfl)) (hw _ (List.mem_of_getElem? (i := 3) rfl)) (hw _ (List.mem_of_getElem? (i := 6) rfl)) at_81 pd_328116 (by decide) (a := b8) (argsL := [(.ref b1), (.int (3 : Int32)), .null]) (rest := [(.ref b8)]) rfl rfl rfl (W := 1) (Nat.le_of_ble_eq_true rfl) (by decide) (by decide) (by decide) (by decide) (kCT l Z n0 a0 hw h9 (Nat.le_trans Z0 K9.1) b8 b1 g0 g1 g2 g3 hg0 hg1 hg2 hg3 hPu (R9.pick [0] [1, 0] rfl rfl (by decide))) (fun v h10 hh => ?_)
      obtain ⟨bs, wd, st, bg, po, fl, u, w1, f0, f1, f2, hu, rfl, zt10_0, zt10_1, zt10_2, zt10_3, zt10_4, zt10_5, Kc10, Rc10⟩ := hh
      have R10 := R9.upd Kc10 [1, 0] Rc10 (Nat.le_of_ble_eq_true rfl) rfl [1] rfl (by decide) (alS zt10_0 (alS zt10_1 (alS zt10_2 (alS zt10_3 (alS zt10_4 (alS zt10_5 al0))))))
      have K10 := K9.trans Kc10 (alS (Or.inr zs9) al0)
      replace R10 : Rep Z a0 n0 h10 GB [(b1, true, .inr (.int, [(.int g0), (.int g1), (.int g2), (.int g3)])), (b8, true, .inl ("com/example/stillpoint/stillpoint/spec/CallGroups", (CGs (.ref bg) (.ref st) (.ref po) (.ref bs) .null .null .null))), (bs, true, .inl ("java/util/BitSet", (BSs (.ref wd) (.int u) (.int (0 : Int32))))), (wd, true, .inr (.long, [(.long w1)])), (st, true, .inr (.int, [(.int (0 : Int32)), (.int (T1 g0 g1 g2 g3)), (.int (T2 g0 g1 g2 g3)), (.int (T3 g0 g1 g2 g3))])), (bg, true, .inr (.int, (BGF g0 g1 g2 g3))), (po, true, .inr (.int, [(.int (P0 g0 g1 g2 g3)), (.int (P1 g0 g1 g2 g3)), (.int (P2 g0 g1 g2 g3)), (.int (P3 g0 g1 g2 g3))])), (fl, true, .inr (.int, [(.int f0), (.int f1), (.int f2)]))] := R10
      show Goes p l e _ s m _ below meth c n0 _ h10 8 34 84 #[.val (.int p1), .val (.int p2), .val (.int p3), .val (.int p4), .val (.ref b1), .val (.int (0 : Int32)), .val (.int g0), .val (.int (p3 &&& (7 : Int32))), .unset] [(.ref b8)]
      refine Goes.blk A _ b0_84_6 (pc' := 91) (Ls' := #[.val (.int p1), .val (.int p2), .val (.int p3), .val (.int p4), .val (.ref b1), .val (.int (0 : Int32)), .val (.int g0), .val (.int (p3 &&& (7 : Int32))), .val (.ref b8)]) (st' := [(.int ((XT.ushr p4 (2 : Int32)) &&& (1 : Int32)))]) rfl ?_
      suffices J11 : ∀ (u2 : Int32) (w2 : Int64) (h11 : Heap), Keep h h11 [] → Rep Z a0 n0 h11 GB [(b1, true, .inr (.int, [(.int g0), (.int g1), (.int g2), (.int g3)])), (b8, true, .inl ("com/example/stillpoint/stillpoint/spec/CallGroups", (CGs (.ref bg) (.ref st) (.ref po) (.ref bs) .null .null .null))), (bs, true, .inl ("java/util/BitSet", (BSs (.ref wd) (.int u2) (.int (0 : Int32))))), (wd, true, .inr (.long, [(.long w2)])), (st, true, .inr (.int, [(.int (0 : Int32)), (.int (T1 g0 g1 g2 g3)), (.int (T2 g0 g1 g2 g3)), (.int (T3 g0 g1 g2 g3))])), (bg, true, .inr (.int, (BGF g0 g1 g2 g3))), (po, true, .inr (.int, [(.int (P0 g0 g1 g2 g3)), (.int (P1 g0 g1 g2 g3)), (.int (P2 g0 g1 g2 g3)), (.int (P3 g0 g1 g2 g3))])), (fl, true, .inr (.int, [(.int f0), (.int f1), (.int f2)]))] → Goes p l e room_1 s m #[(.int p1), (.int p2), (.int p3), (.int p4)] below meth c n0 (fun v _ => v = some (.int 1)) h11 8 34 102 #[.val (.int p1), .val (.int p2), .val (.int p3), .val (.int p4), .val (.ref b1), .val (.int (0 : Int32)), .val (.int g0), .val (.int (p3 &&& (7 : Int32))), .val (.ref b8)] [] by
        refine Goes.if1 A at_91 (by decide) (pc' := 102) (by decide) (fun hc12 => ?_) (fun hc12 => ?_)
        · skip
          exact J11 _ _ _ K10 R10
        obtain ⟨nq, q, hnq, hq, hq6⟩ : ∃ (n : Nat) (q : Int32), (p4 &&& (3 : Int32)).toInt = n ∧ [Value.int (P0 g0 g1 g2 g3), Value.int (P1 g0 g1 g2 g3), Value.int (P2 g0 g1 g2 g3), Value.int (P3 g0 g1 g2 g3)][n]? = some (Value.int q) ∧ (0 ≤ q.toInt → (q >>> ((6 : Int32) &&& 31)) = 0) := by
          have hP2 := hPu; simp only [pureB, Bool.and_eq_true] at hP2; obtain ⟨⟨⟨⟨-, q0⟩, q1⟩, q2⟩, q3⟩ := hP2
          rcases own_mask3 p4 with r | r | r | r <;> rw [r]
          · exact ⟨0, _, by decide, rfl, ok6_of q0⟩
          · exact ⟨1, _, by decide, rfl, ok6_of q1⟩
          · exact ⟨2, _, by decide, rfl, ok6_of q2⟩
          · exact ⟨3, _, by decide, rfl, ok6_of q3⟩
        refine Goes.blk A _ b0_94_4 (pc' := 99) (Ls' := #[.val (.int p1), .val (.int p2), .val (.int p3), .val (.int p4), .val (.ref b1), .val (.int (0 : Int32)), .val (.int g0), .val (.int (p3 &&& (7 : Int32))), .val (.ref b8)]) (st' := [(.int (p4 &&& (3 : Int32))), (.ref b8)]) rfl ?_
        rcases hu with rfl | rfl
        · skip
          refine Goes.virt A (hw _ (List.mem_of_getElem? (i := 88) rfl)) (hw _ (List.mem_of_getElem? (i := 89) rfl)) (hw _ (List.mem_of_getElem? (i := 91) rfl)) (hw _ (List.mem_of_getElem? (i := 91) rfl)) (hw _ (List.mem_of_getElem? (i := 90) rfl)) (hw _ (List.mem_of_getElem? (i := 3) rfl)) (hw _ (List.mem_of_getElem? (i := 92) rfl)) at_99 pd_727776 (by decide) (R10.exa (i := 1) rfl) (argsL := [(.int (p4 &&& (3 : Int32)))]) (rest := []) rfl rfl rfl (W := 0) (Nat.le_of_ble_eq_true rfl) (by decide) (by decide) (by decide) (by decide) (kPL0 l Z n0 a0 hw h10 (Nat.le_trans Z0 K10.1) b8 bg st po bs wd w1 [Value.int (P0 g0 g1 g2 g3), Value.int (P1 g0 g1 g2 g3), Value.int (P2 g0 g1 g2 g3), Value.int (P3 g0 g1 g2 g3)] (p4 &&& (3 : Int32)) q nq hnq hq hq6 (R10.pick [0] [1, 6, 2, 3] rfl rfl (by decide))) (fun v h13 hh => ?_)
          obtain ⟨u2, w2, hu2, rfl, Kc13, Rc13⟩ := hh
          have R13 := R10.upd Kc13 [1, 6, 2, 3] Rc13 (Nat.le_of_ble_eq_true rfl) rfl [2, 3] rfl (by decide) al0
          have K13 := K10.trans Kc13 (alS (Or.inr (Nat.le_trans K9.1 zt10_0)) (alS (Or.inr (Nat.le_trans K9.1 zt10_1)) al0))
          replace R13 : Rep Z a0 n0 h13 GB [(b1, true, .inr (.int, [(.int g0), (.int g1), (.int g2), (.int g3)])), (b8, true, .inl ("com/example/stillpoint/stillpoint/spec/CallGroups", (CGs (.ref bg) (.ref st) (.ref po) (.ref bs) .null .null .null))), (bs, true, .inl ("java/util/BitSet", (BSs (.ref wd) (.int u2) (.int (0 : Int32))))), (wd, true, .inr (.long, [(.long w2)])), (st, true, .inr (.int, [(.int (0 : Int32)), (.int (T1 g0 g1 g2 g3)), (.int (T2 g0 g1 g2 g3)), (.int (T3 g0 g1 g2 g3))])), (bg, true, .inr (.int, (BGF g0 g1 g2 g3))), (po, true, .inr (.int, [(.int (P0 g0 g1 g2 g3)), (.int (P1 g0 g1 g2 g3)), (.int (P2 g0 g1 g2 g3)), (.int (P3 g0 g1 g2 g3))])), (fl, true, .inr (.int, [(.int f0), (.int f1), (.int f2)]))] := R13
          show Goes p l e _ s m _ below meth c n0 _ h13 8 34 102 #[.val (.int p1), .val (.int p2), .val (.int p3), .val (.int p4), .val (.ref b1), .val (.int (0 : Int32)), .val (.int g0), .val (.int (p3 &&& (7 : Int32))), .val (.ref b8)] []
          exact J11 _ _ _ K13 R13
        · skip
          refine Goes.virt A (hw _ (List.mem_of_getElem? (i := 88) rfl)) (hw _ (List.mem_of_getElem? (i := 89) rfl)) (hw _ (List.mem_of_getElem? (i := 91) rfl)) (hw _ (List.mem_of_getElem? (i := 91) rfl)) (hw _ (List.mem_of_getElem? (i := 90) rfl)) (hw _ (List.mem_of_getElem? (i := 3) rfl)) (hw _ (List.mem_of_getElem? (i := 92) rfl)) at_99 pd_727776 (by decide) (R10.exa (i := 1) rfl) (argsL := [(.int (p4 &&& (3 : Int32)))]) (rest := []) rfl rfl rfl (W := 0) (Nat.le_of_ble_eq_true rfl) (by decide) (by decide) (by decide) (by decide) (kPL1 l Z n0 a0 hw h10 (Nat.le_trans Z0 K10.1) b8 bg st po bs wd w1 [Value.int (P0 g0 g1 g2 g3), Value.int (P1 g0 g1 g2 g3), Value.int (P2 g0 g1 g2 g3), Value.int (P3 g0 g1 g2 g3)] (p4 &&& (3 : Int32)) q nq hnq hq hq6 (R10.pick [0] [1, 6, 2, 3] rfl rfl (by decide))) (fun v h14 hh => ?_)
          obtain ⟨u2, w2, hu2, rfl, Kc14, Rc14⟩ := hh
          have R14 := R10.upd Kc14 [1, 6, 2, 3] Rc14 (Nat.le_of_ble_eq_true rfl) rfl [2, 3] rfl (by decide) al0
          have K14 := K10.trans Kc14 (alS (Or.inr (Nat.le_trans K9.1 zt10_0)) (alS (Or.inr (Nat.le_trans K9.1 zt10_1)) al0))
          replace R14 : Rep Z a0 n0 h14 GB [(b1, true, .inr (.int, [(.int g0), (.int g1), (.int g2), (.int g3)])), (b8, true, .inl ("com/example/stillpoint/stillpoint/spec/CallGroups", (CGs (.ref bg) (.ref st) (.ref po) (.ref bs) .null .null .null))), (bs, true, .inl ("java/util/BitSet", (BSs (.ref wd) (.int u2) (.int (0 : Int32))))), (wd, true, .inr (.long, [(.long w2)])), (st, true, .inr (.int, [(.int (0 : Int32)), (.int (T1 g0 g1 g2 g3)), (.int (T2 g0 g1 g2 g3)), (.int (T3 g0 g1 g2 g3))])), (bg, true, .inr (.int, (BGF g0 g1 g2 g3))), (po, true, .inr (.int, [(.int (P0 g0 g1 g2 g3)), (.int (P1 g0 g1 g2 g3)), (.int (P2 g0 g1 g2 g3)), (.int (P3 g0 g1 g2 g3))])), (fl, true, .inr (.int, [(.int f0), (.int f1), (.int f2)]))] := R14
          show Goes p l e _ s m _ below meth c n0 _ h14 8 34 102 #[.val (.int p1), .val (.int p2), .val (.int p3), .val (.int p4), .val (.ref b1), .val (.int (0 : Int32)), .val (.int g0), .val (.int (p3 &&& (7 : Int32))), .val (.ref b8)] []
          exact J11 _ _ _ K14 R14
      intro u2 w2 h11  K11 R11
      obtain ⟨n2, sv, hn2, hs2, hT, hF⟩ := mainB_ok (g0 := g0) (g1 := g1) (g2 := g2) (g3 := g3) (g := g0) (q := P0 g0 g1 g2 g3) (k := (p3 &&& (7 : Int32))) (cl := 0) (xs := [(g1, 1), (g2, 2), (g3, 3)]) (by
        obtain ⟨j, hj⟩ := own_k8 hk8; obtain ⟨i0, z0⟩ := gv_of hg0; obtain ⟨i1, z1⟩ := gv_of hg1; obtain ⟨i2, z2⟩ := gv_of hg2; obtain ⟨i3, z3⟩ := gv_of hg3
        rw [hj, z0, z1, z2, z3]; exact main_all0 i0 i1 i2 i3 j) hne
      refine Goes.blk A _ b0_102_4 (pc' := 110) (Ls' := #[.val (.int p1), .val (.int p2), .val (.int p3), .val (.int p4), .val (.ref b1), .val (.int (0 : Int32)), .val (.int g0), .val (.int (p3 &&& (7 : Int32))), .val (.ref b8)]) (st' := [(.int (p3 &&& (7 : Int32))), (.int (0 : Int32)), (.int g0), (.ref b8)]) rfl ?_
      refine Goes.virt A (hw _ (List.mem_of_getElem? (i := 79) rfl)) (hw _ (List.mem_of_getElem? (i := 80) rfl)) (hw _ (List.mem_of_getElem? (i := 82) rfl)) (hw _ (List.mem_of_getElem? (i := 82) rfl)) (hw _ (List.mem_of_getElem? (i := 81) rfl)) (hw _ (List.mem_of_getElem? (i := 3) rfl)) (hw _ (List.mem_of_getElem? (i := 83) rfl)) at_110 pd_332799 (by decide) (R11.exa (i := 1) rfl) (argsL := [(.int g0), (.int (0 : Int32)), (.int (p3 &&& (7 : Int32)))]) (rest := []) rfl rfl rfl (W := 0) (Nat.le_of_ble_eq_true rfl) (by decide) (by decide) (by decide) (by decide) (kCA l Z n0 a0 hw h11 (Nat.le_trans Z0 K11.1) b8 bg st po bs [Value.int (P0 g0 g1 g2 g3), Value.int (P1 g0 g1 g2 g3), Value.int (P2 g0 g1 g2 g3), Value.int (P3 g0 g1 g2 g3)] [Value.int 0, .int (T1 g0 g1 g2 g3), .int (T2 g0 g1 g2 g3), .int (T3 g0 g1 g2 g3)] (BGF g0 g1 g2 g3) g0 0 (p3 &&& (7 : Int32)) (P0 g0 g1 g2 g3) sv (rfF g0 (p3 &&& (7 : Int32)) 0 [(g1, 1), (g2, 2), (g3, 3)]) 0 n2 (by decide) rfl hn2 hs2 hT hF (R11.pick [0] [1, 6, 4, 5] rfl rfl (by decide))) (fun v hq hh => ?_)
      obtain ⟨rfl, rfl⟩ := hh
      show Goes p l e _ s m _ below meth c n0 _ h11 8 34 113 #[.val (.int p1), .val (.int p2), .val (.int p3), .val (.int p4), .val (.ref b1), .val (.int (0 : Int32)), .val (.int g0), .val (.int (p3 &&& (7 : Int32))), .val (.ref b8)] [(.int (rfF g0 (p3 &&& (7 : Int32)) 0 [(g1, 1), (g2, 2), (g3, 3)]))]
      refine Goes.blk A _ b0_113_4 (pc' := 121) (Ls' := #[.val (.int p1), .val (.int p2), .val (.int p3), .val (.int p4), .val (.ref b1), .val (.int (0 : Int32)), .val (.int g0), .val (.int (p3 &&& (7 : Int32))), .val (.ref b8)]) (st' := [(.int (p3 &&& (7 : Int32))), (.int (0 : Int32)), (.int g0), (.ref b1), (.int (rfF g0 (p3 &&& (7 : Int32)) 0 [(g1, 1), (g2, 2), (g3, 3)]))]) rfl ?_
      refine Goes.static A (hw _ (List.mem_of_getElem? (i := 84) rfl)) (hw _ (List.mem_of_getElem? (i := 85) rfl)) (hw _ (List.mem_of_getElem? (i := 86) rfl)) (hw _ (List.mem_of_getElem? (i := 87) rfl)) at_121 pd_791868 (by decide) (argsL := [(.ref b1), (.int g0), (.int (0 : Int32)), (.int (p3 &&& (7 : Int32)))]) (rest := [(.int (rfF g0 (p3 &&& (7 : Int32)) 0 [(g1, 1), (g2, 2), (g3, 3)]))]) rfl rfl rfl (W := 1) (Nat.le_of_ble_eq_true rfl) (by decide) (by decide) (by decide) (by decide) (kRF0 l Z n0 a0 hw h11 (Nat.le_trans Z0 K11.1) b1 g0 (p3 &&& (7 : Int32)) g0 g1 g2 g3 (R11.pick [0] [0] rfl rfl (by decide))) (fun v hq hh => ?_)
      obtain ⟨rfl, rfl⟩ := hh
      show Goes p l e _ s m _ below meth c n0 _ h11 8 34 124 #[.val (.int p1), .val (.int p2), .val (.int p3), .val (.int p4), .val (.ref b1), .val (.int (0 : Int32)), .val (.int g0), .val (.int (p3 &&& (7 : Int32))), .val (.ref b8)] [(.int (rfF g0 (p3 &&& (7 : Int32)) 0 [(g1, 1), (g2, 2), (g3, 3)])), (.int (rfF g0 (p3 &&& (7 : Int32)) 0 [(g1, 1), (g2, 2), (g3, 3)]))]
      refine Goes.if2 A at_124 (by decide) (pc' := 131) (by decide) (fun hc => absurd rfl hc) (fun hc15 => ?_)
      refine Goes.blk A _ b0_127_1 (pc' := 128) (Ls' := #[.val (.int p1), .val (.int p2), .val (.int p3), .val (.int p4), .val (.ref b1), .val (.int (0 : Int32)), .val (.int g0), .val (.int (p3 &&& (7 : Int32))), .val (.ref b8)]) (st' := [(.int (1 : Int32))]) rfl ?_
      refine Goes.jump A at_128 (by decide) (pc' := 132) (by decide) ?_
      exact Goes.retB A hret (by simp) hlk at_132 (z' := 1) (by decide) (by decide) (by decide) rfl
    refine Goes.blk A _ b0_65_1 (pc' := 66) (Ls' := #[.val (.int p1), .val (.int p2), .val (.int p3), .val (.int p4), .val (.ref b1), .val (.int (0 : Int32)), .val (.int g0), .unset, .unset]) (st' := [(.int (1 : Int32))]) rfl ?_
    exact Goes.retB A hret (by simp) hlk at_66 (z' := 1) (by decide) (by decide) (by decide) rfl
  · skip
    rw [hcl]
    refine Goes.iaload A R6 (i := 0) rfl (k := 1) (by decide) rfl at_57 ?_
    refine Goes.blk A _ b0_58_2 (pc' := 62) (Ls' := #[.val (.int p1), .val (.int p2), .val (.int p3), .val (.int p4), .val (.ref b1), .val (.int (1 : Int32)), .val (.int g1), .unset, .unset]) (st' := [(.int g1)]) rfl ?_
    refine Goes.if1 A at_62 (by decide) (pc' := 67) (by decide) (fun hc16 => ?_) (fun hc16 => ?_)
    · skip
      have hne : ¬ g1 = -1 := by intro q; have q9 := cP_int hc16; rw [q] at q9; simp only [cI] at q9; revert q9; decide
      refine Goes.blk A _ b0_67_4 (pc' := 73) (Ls' := #[.val (.int p1), .val (.int p2), .val (.int p3), .val (.int p4), .val (.ref b1), .val (.int (1 : Int32)), .val (.int g1), .val (.int (p3 &&& (7 : Int32))), .unset]) (st' := []) rfl ?_
      refine Goes.newObj A (hw _ (List.mem_of_getElem? (i := 1) rfl)) (hw _ (List.mem_of_getElem? (i := 2) rfl)) (hw _ (List.mem_of_getElem? (i := 3) rfl)) R6 K6 Z0 (fs := (CGs .null .null .null .null .null .null .null)) ⟨⟨Or.inr (hw _ (List.mem_of_getElem? (i := 37) rfl)), (.array .int), by decide, rfl⟩, ⟨Or.inr (hw _ (List.mem_of_getElem? (i := 35) rfl)), (.array .int), by decide, rfl⟩, ⟨Or.inr (hw _ (List.mem_of_getElem? (i := 39) rfl)), (.array .int), by decide, rfl⟩, ⟨Or.inr (hw _ (List.mem_of_getElem? (i := 33) rfl)), (.object "java/util/BitSet"), by decide, rfl⟩, ⟨Or.inr (hw _ (List.mem_of_getElem? (i := 78) rfl)), (.array .int), by decide, rfl⟩, ⟨Or.inl (hw _ (List.mem_of_getElem? (i := 108) rfl)), (.array .int), by decide, rfl⟩, ⟨Or.inl (hw _ (List.mem_of_getElem? (i := 110) rfl)), (.array .int), by decide, rfl⟩, trivial⟩ (by decide) at_73 (by decide) (by decide) (fun b17 h18 zs18 zt18 K18 R18 => ?_)
      replace R18 : Rep Z a0 n0 h18 GB [(b1, true, .inr (.int, [(.int g0), (.int g1), (.int g2), (.int g3)])), (b17, true, .inl ("com/example/stillpoint/stillpoint/spec/CallGroups", (CGs .null .null .null .null .null .null .null)))] := R18
      show Goes p l e _ s m _ below meth c n0 _ h18 2 15 76 #[.val (.int p1), .val (.int p2), .val (.int p3), .val (.int p4), .val (.ref b1), .val (.int (1 : Int32)), .val (.int g1), .val (.int (p3 &&& (7 : Int32))), .unset] [(.ref b17)]
      refine Goes.blk A _ b0_76_4 (pc' := 81) (Ls' := #[.val (.int p1), .val (.int p2), .val (.int p3), .val (.int p4), .val (.ref b1), .val (.int (1 : Int32)), .val (.int g1), .val (.int (p3 &&& (7 : Int32))), .unset]) (st' := [.null, (.int (3 : Int32)), (.ref b1), (.ref b17), (.ref b17)]) rfl ?_
      refine Goes.spec A rfl (hw _ (List.mem_of_getElem? (i := 4) rfl)) (hw _ (List.mem_of_getElem? (i := 5) rfl)) (hw _ (List.mem_of_getElem? (i := 3) rfl)) (hw _ (List.mem_of_getElem? (i := 6) rfl)) at_81 pd_328116 (by decide) (a := b17) (argsL := [(.ref b1), (.int (3 : Int32)), .null]) (rest := [(.ref b17)]) rfl rfl rfl (W := 1) (Nat.le_of_ble_eq_true rfl) (by decide) (by decide) (by decide) (by decide) (kCT l Z n0 a0 hw h18 (Nat.le_trans Z0 K18.1) b17 b1 g0 g1 g2 g3 hg0 hg1 hg2 hg3 hPu (R18.pick [0] [1, 0] rfl rfl (by decide))) (fun v h19 hh => ?_)
      obtain ⟨bs, wd, st, bg, po, fl, u, w1, f0, f1, f2, hu, rfl, zt19_0, zt19_1, zt19_2, zt19_3, zt19_4, zt19_5, Kc19, Rc19⟩ := hh
      have R19 := R18.upd Kc19 [1, 0] Rc19 (Nat.le_of_ble_eq_true rfl) rfl [1] rfl (by decide) (alS zt19_0 (alS zt19_1 (alS zt19_2 (alS zt19_3 (alS zt19_4 (alS zt19_5 al0))))))
      have K19 := K18.trans Kc19 (alS (Or.inr zs18) al0)
      replace R19 : Rep Z a0 n0 h19 GB [(b1, true, .inr (.int, [(.int g0), (.int g1), (.int g2), (.int g3)])), (b17, true, .inl ("com/example/stillpoint/stillpoint/spec/CallGroups", (CGs (.ref bg) (.ref st) (.ref po) (.ref bs) .null .null .null))), (bs, true, .inl ("java/util/BitSet", (BSs (.ref wd) (.int u) (.int (0 : Int32))))), (wd, true, .inr (.long, [(.long w1)])), (st, true, .inr (.int, [(.int (0 : Int32)), (.int (T1 g0 g1 g2 g3)), (.int (T2 g0 g1 g2 g3)), (.int (T3 g0 g1 g2 g3))])), (bg, true, .inr (.int, (BGF g0 g1 g2 g3))), (po, true, .inr (.int, [(.int (P0 g0 g1 g2 g3)), (.int (P1 g0 g1 g2 g3)), (.int (P2 g0 g1 g2 g3)), (.int (P3 g0 g1 g2 g3))])), (fl, true, .inr (.int, [(.int f0), (.int f1), (.int f2)]))] := R19
      show Goes p l e _ s m _ below meth c n0 _ h19 8 34 84 #[.val (.int p1), .val (.int p2), .val (.int p3), .val (.int p4), .val (.ref b1), .val (.int (1 : Int32)), .val (.int g1), .val (.int (p3 &&& (7 : Int32))), .unset] [(.ref b17)]
      refine Goes.blk A _ b0_84_6 (pc' := 91) (Ls' := #[.val (.int p1), .val (.int p2), .val (.int p3), .val (.int p4), .val (.ref b1), .val (.int (1 : Int32)), .val (.int g1), .val (.int (p3 &&& (7 : Int32))), .val (.ref b17)]) (st' := [(.int ((XT.ushr p4 (2 : Int32)) &&& (1 : Int32)))]) rfl ?_
      suffices J20 : ∀ (u2 : Int32) (w2 : Int64) (h20 : Heap), Keep h h20 [] → Rep Z a0 n0 h20 GB [(b1, true, .inr (.int, [(.int g0), (.int g1), (.int g2), (.int g3)])), (b17, true, .inl ("com/example/stillpoint/stillpoint/spec/CallGroups", (CGs (.ref bg) (.ref st) (.ref po) (.ref bs) .null .null .null))), (bs, true, .inl ("java/util/BitSet", (BSs (.ref wd) (.int u2) (.int (0 : Int32))))), (wd, true, .inr (.long, [(.long w2)])), (st, true, .inr (.int, [(.int (0 : Int32)), (.int (T1 g0 g1 g2 g3)), (.int (T2 g0 g1 g2 g3)), (.int (T3 g0 g1 g2 g3))])), (bg, true, .inr (.int, (BGF g0 g1 g2 g3))), (po, true, .inr (.int, [(.int (P0 g0 g1 g2 g3)), (.int (P1 g0 g1 g2 g3)), (.int (P2 g0 g1 g2 g3)), (.int (P3 g0 g1 g2 g3))])), (fl, true, .inr (.int, [(.int f0), (.int f1), (.int f2)]))] → Goes p l e room_1 s m #[(.int p1), (.int p2), (.int p3), (.int p4)] below meth c n0 (fun v _ => v = some (.int 1)) h20 8 34 102 #[.val (.int p1), .val (.int p2), .val (.int p3), .val (.int p4), .val (.ref b1), .val (.int (1 : Int32)), .val (.int g1), .val (.int (p3 &&& (7 : Int32))), .val (.ref b17)] [] by
        refine Goes.if1 A at_91 (by decide) (pc' := 102) (by decide) (fun hc21 => ?_) (fun hc21 => ?_)
        · skip
          exact J20 _ _ _ K19 R19
        obtain ⟨nq, q, hnq, hq, hq6⟩ : ∃ (n : Nat) (q : Int32), (p4 &&& (3 : Int32)).toInt = n ∧ [Value.int (P0 g0 g1 g2 g3), Value.int (P1 g0 g1 g2 g3), Value.int (P2 g0 g1 g2 g3), Value.int (P3 g0 g1 g2 g3)][n]? = some (Value.int q) ∧ (0 ≤ q.toInt → (q >>> ((6 : Int32) &&& 31)) = 0) := by
          have hP2 := hPu; simp only [pureB, Bool.and_eq_true] at hP2; obtain ⟨⟨⟨⟨-, q0⟩, q1⟩, q2⟩, q3⟩ := hP2
          rcases own_mask3 p4 with r | r | r | r <;> rw [r]
          · exact ⟨0, _, by decide, rfl, ok6_of q0⟩
          · exact ⟨1, _, by decide, rfl, ok6_of q1⟩
          · exact ⟨2, _, by decide, rfl, ok6_of q2⟩
          · exact ⟨3, _, by decide, rfl, ok6_of q3⟩
        refine Goes.blk A _ b0_94_4 (pc' := 99) (Ls' := #[.val (.int p1), .val (.int p2), .val (.int p3), .val (.int p4), .val (.ref b1), .val (.int (1 : Int32)), .val (.int g1), .val (.int (p3 &&& (7 : Int32))), .val (.ref b17)]) (st' := [(.int (p4 &&& (3 : Int32))), (.ref b17)]) rfl ?_
        rcases hu with rfl | rfl
        · skip
          refine Goes.virt A (hw _ (List.mem_of_getElem? (i := 88) rfl)) (hw _ (List.mem_of_getElem? (i := 89) rfl)) (hw _ (List.mem_of_getElem? (i := 91) rfl)) (hw _ (List.mem_of_getElem? (i := 91) rfl)) (hw _ (List.mem_of_getElem? (i := 90) rfl)) (hw _ (List.mem_of_getElem? (i := 3) rfl)) (hw _ (List.mem_of_getElem? (i := 92) rfl)) at_99 pd_727776 (by decide) (R19.exa (i := 1) rfl) (argsL := [(.int (p4 &&& (3 : Int32)))]) (rest := []) rfl rfl rfl (W := 0) (Nat.le_of_ble_eq_true rfl) (by decide) (by decide) (by decide) (by decide) (kPL0 l Z n0 a0 hw h19 (Nat.le_trans Z0 K19.1) b17 bg st po bs wd w1 [Value.int (P0 g0 g1 g2 g3), Value.int (P1 g0 g1 g2 g3), Value.int (P2 g0 g1 g2 g3), Value.int (P3 g0 g1 g2 g3)] (p4 &&& (3 : Int32)) q nq hnq hq hq6 (R19.pick [0] [1, 6, 2, 3] rfl rfl (by decide))) (fun v h22 hh => ?_)
          obtain ⟨u2, w2, hu2, rfl, Kc22, Rc22⟩ := hh
          have R22 := R19.upd Kc22 [1, 6, 2, 3] Rc22 (Nat.le_of_ble_eq_true rfl) rfl [2, 3] rfl (by decide) al0
          have K22 := K19.trans Kc22 (alS (Or.inr (Nat.le_trans K18.1 zt19_0)) (alS (Or.inr (Nat.le_trans K18.1 zt19_1)) al0))
          replace R22 : Rep Z a0 n0 h22 GB [(b1, true, .inr (.int, [(.int g0), (.int g1), (.int g2), (.int g3)])), (b17, true, .inl ("com/example/stillpoint/stillpoint/spec/CallGroups", (CGs (.ref bg) (.ref st) (.ref po) (.ref bs) .null .null .null))), (bs, true, .inl ("java/util/BitSet", (BSs (.ref wd) (.int u2) (.int (0 : Int32))))), (wd, true, .inr (.long, [(.long w2)])), (st, true, .inr (.int, [(.int (0 : Int32)), (.int (T1 g0 g1 g2 g3)), (.int (T2 g0 g1 g2 g3)), (.int (T3 g0 g1 g2 g3))])), (bg, true, .inr (.int, (BGF g0 g1 g2 g3))), (po, true, .inr (.int, [(.int (P0 g0 g1 g2 g3)), (.int (P1 g0 g1 g2 g3)), (.int (P2 g0 g1 g2 g3)), (.int (P3 g0 g1 g2 g3))])), (fl, true, .inr (.int, [(.int f0), (.int f1), (.int f2)]))] := R22
          show Goes p l e _ s m _ below meth c n0 _ h22 8 34 102 #[.val (.int p1), .val (.int p2), .val (.int p3), .val (.int p4), .val (.ref b1), .val (.int (1 : Int32)), .val (.int g1), .val (.int (p3 &&& (7 : Int32))), .val (.ref b17)] []
          exact J20 _ _ _ K22 R22
        · skip
          refine Goes.virt A (hw _ (List.mem_of_getElem? (i := 88) rfl)) (hw _ (List.mem_of_getElem? (i := 89) rfl)) (hw _ (List.mem_of_getElem? (i := 91) rfl)) (hw _ (List.mem_of_getElem? (i := 91) rfl)) (hw _ (List.mem_of_getElem? (i := 90) rfl)) (hw _ (List.mem_of_getElem? (i := 3) rfl)) (hw _ (List.mem_of_getElem? (i := 92) rfl)) at_99 pd_727776 (by decide) (R19.exa (i := 1) rfl) (argsL := [(.int (p4 &&& (3 : Int32)))]) (rest := []) rfl rfl rfl (W := 0) (Nat.le_of_ble_eq_true rfl) (by decide) (by decide) (by decide) (by decide) (kPL1 l Z n0 a0 hw h19 (Nat.le_trans Z0 K19.1) b17 bg st po bs wd w1 [Value.int (P0 g0 g1 g2 g3), Value.int (P1 g0 g1 g2 g3), Value.int (P2 g0 g1 g2 g3), Value.int (P3 g0 g1 g2 g3)] (p4 &&& (3 : Int32)) q nq hnq hq hq6 (R19.pick [0] [1, 6, 2, 3] rfl rfl (by decide))) (fun v h23 hh => ?_)
          obtain ⟨u2, w2, hu2, rfl, Kc23, Rc23⟩ := hh
          have R23 := R19.upd Kc23 [1, 6, 2, 3] Rc23 (Nat.le_of_ble_eq_true rfl) rfl [2, 3] rfl (by decide) al0
          have K23 := K19.trans Kc23 (alS (Or.inr (Nat.le_trans K18.1 zt19_0)) (alS (Or.inr (Nat.le_trans K18.1 zt19_1)) al0))
          replace R23 : Rep Z a0 n0 h23 GB [(b1, true, .inr (.int, [(.int g0), (.int g1), (.int g2), (.int g3)])), (b17, true, .inl ("com/example/stillpoint/stillpoint/spec/CallGroups", (CGs (.ref bg) (.ref st) (.ref po) (.ref bs) .null .null .null))), (bs, true, .inl ("java/util/BitSet", (BSs (.ref wd) (.int u2) (.int (0 : Int32))))), (wd, true, .inr (.long, [(.long w2)])), (st, true, .inr (.int, [(.int (0 : Int32)), (.int (T1 g0 g1 g2 g3)), (.int (T2 g0 g1 g2 g3)), (.int (T3 g0 g1 g2 g3))])), (bg, true, .inr (.int, (BGF g0 g1 g2 g3))), (po, true, .inr (.int, [(.int (P0 g0 g1 g2 g3)), (.int (P1 g0 g1 g2 g3)), (.int (P2 g0 g1 g2 g3)), (.int (P3 g0 g1 g2 g3))])), (fl, true, .inr (.int, [(.int f0), (.int f1), (.int f2)]))] := R23
          show Goes p l e _ s m _ below meth c n0 _ h23 8 34 102 #[.val (.int p1), .val (.int p2), .val (.int p3), .val (.int p4), .val (.ref b1), .val (.int (1 : Int32)), .val (.int g1), .val (.int (p3 &&& (7 : Int32))), .val (.ref b17)] []
          exact J20 _ _ _ K23 R23
      intro u2 w2 h20  K20 R20
      obtain ⟨n2, sv, hn2, hs2, hT, hF⟩ := mainB_ok (g0 := g0) (g1 := g1) (g2 := g2) (g3 := g3) (g := g1) (q := P1 g0 g1 g2 g3) (k := (p3 &&& (7 : Int32))) (cl := 1) (xs := [(g2, 2), (g3, 3)]) (by
        obtain ⟨j, hj⟩ := own_k8 hk8; obtain ⟨i0, z0⟩ := gv_of hg0; obtain ⟨i1, z1⟩ := gv_of hg1; obtain ⟨i2, z2⟩ := gv_of hg2; obtain ⟨i3, z3⟩ := gv_of hg3
        rw [hj, z0, z1, z2, z3]; exact main_all1 i0 i1 i2 i3 j) hne
      refine Goes.blk A _ b0_102_4 (pc' := 110) (Ls' := #[.val (.int p1), .val (.int p2), .val (.int p3), .val (.int p4), .val (.ref b1), .val (.int (1 : Int32)), .val (.int g1), .val (.int (p3 &&& (7 : Int32))), .val (.ref b17)]) (st' := [(.int (p3 &&& (7 : Int32))), (.int (1 : Int32)), (.int g1), (.ref b17)]) rfl ?_
      refine Goes.virt A (hw _ (List.mem_of_getElem? (i := 79) rfl)) (hw _ (List.mem_of_getElem? (i := 80) rfl)) (hw _ (List.mem_of_getElem? (i := 82) rfl)) (hw _ (List.mem_of_getElem? (i := 82) rfl)) (hw _ (List.mem_of_getElem? (i := 81) rfl)) (hw _ (List.mem_of_getElem? (i := 3) rfl)) (hw _ (List.mem_of_getElem? (i := 83) rfl)) at_110 pd_332799 (by decide) (R20.exa (i := 1) rfl) (argsL := [(.int g1), (.int (1 : Int32)), (.int (p3 &&& (7 : Int32)))]) (rest := []) rfl rfl rfl (W := 0) (Nat.le_of_ble_eq_true rfl) (by decide) (by decide) (by decide) (by decide) (kCA l Z n0 a0 hw h20 (Nat.le_trans Z0 K20.1) b17 bg st po bs [Value.int (P0 g0 g1 g2 g3), Value.int (P1 g0 g1 g2 g3), Value.int (P2 g0 g1 g2 g3), Value.int (P3 g0 g1 g2 g3)] [Value.int 0, .int (T1 g0 g1 g2 g3), .int (T2 g0 g1 g2 g3), .int (T3 g0 g1 g2 g3)] (BGF g0 g1 g2 g3) g1 1 (p3 &&& (7 : Int32)) (P1 g0 g1 g2 g3) sv (rfF g1 (p3 &&& (7 : Int32)) 1 [(g2, 2), (g3, 3)]) 1 n2 (by decide) rfl hn2 hs2 hT hF (R20.pick [0] [1, 6, 4, 5] rfl rfl (by decide))) (fun v hq hh => ?_)
      obtain ⟨rfl, rfl⟩ := hh
      show Goes p l e _ s m _ below meth c n0 _ h20 8 34 113 #[.val (.int p1), .val (.int p2), .val (.int p3), .val (.int p4), .val (.ref b1), .val (.int (1 : Int32)), .val (.int g1), .val (.int (p3 &&& (7 : Int32))), .val (.ref b17)] [(.int (rfF g1 (p3 &&& (7 : Int32)) 1 [(g2, 2), (g3, 3)]))]
      refine Goes.blk A _ b0_113_4 (pc' := 121) (Ls' := #[.val (.int p1), .val (.int p2), .val (.int p3), .val (.int p4), .val (.ref b1), .val (.int (1 : Int32)), .val (.int g1), .val (.int (p3 &&& (7 : Int32))), .val (.ref b17)]) (st' := [(.int (p3 &&& (7 : Int32))), (.int (1 : Int32)), (.int g1), (.ref b1), (.int (rfF g1 (p3 &&& (7 : Int32)) 1 [(g2, 2), (g3, 3)]))]) rfl ?_
      refine Goes.static A (hw _ (List.mem_of_getElem? (i := 84) rfl)) (hw _ (List.mem_of_getElem? (i := 85) rfl)) (hw _ (List.mem_of_getElem? (i := 86) rfl)) (hw _ (List.mem_of_getElem? (i := 87) rfl)) at_121 pd_791868 (by decide) (argsL := [(.ref b1), (.int g1), (.int (1 : Int32)), (.int (p3 &&& (7 : Int32)))]) (rest := [(.int (rfF g1 (p3 &&& (7 : Int32)) 1 [(g2, 2), (g3, 3)]))]) rfl rfl rfl (W := 1) (Nat.le_of_ble_eq_true rfl) (by decide) (by decide) (by decide) (by decide) (kRF1 l Z n0 a0 hw h20 (Nat.le_trans Z0 K20.1) b1 g1 (p3 &&& (7 : Int32)) g0 g1 g2 g3 (R20.pick [0] [0] rfl rfl (by decide))) (fun v hq hh => ?_)
      obtain ⟨rfl, rfl⟩ := hh
      show Goes p l e _ s m _ below meth c n0 _ h20 8 34 124 #[.val (.int p1), .val (.int p2), .val (.int p3), .val (.int p4), .val (.ref b1), .val (.int (1 : Int32)), .val (.int g1), .val (.int (p3 &&& (7 : Int32))), .val (.ref b17)] [(.int (rfF g1 (p3 &&& (7 : Int32)) 1 [(g2, 2), (g3, 3)])), (.int (rfF g1 (p3 &&& (7 : Int32)) 1 [(g2, 2), (g3, 3)]))]
      refine Goes.if2 A at_124 (by decide) (pc' := 131) (by decide) (fun hc => absurd rfl hc) (fun hc24 => ?_)
      refine Goes.blk A _ b0_127_1 (pc' := 128) (Ls' := #[.val (.int p1), .val (.int p2), .val (.int p3), .val (.int p4), .val (.ref b1), .val (.int (1 : Int32)), .val (.int g1), .val (.int (p3 &&& (7 : Int32))), .val (.ref b17)]) (st' := [(.int (1 : Int32))]) rfl ?_
      refine Goes.jump A at_128 (by decide) (pc' := 132) (by decide) ?_
      exact Goes.retB A hret (by simp) hlk at_132 (z' := 1) (by decide) (by decide) (by decide) rfl
    refine Goes.blk A _ b0_65_1 (pc' := 66) (Ls' := #[.val (.int p1), .val (.int p2), .val (.int p3), .val (.int p4), .val (.ref b1), .val (.int (1 : Int32)), .val (.int g1), .unset, .unset]) (st' := [(.int (1 : Int32))]) rfl ?_
    exact Goes.retB A hret (by simp) hlk at_66 (z' := 1) (by decide) (by decide) (by decide) rfl
  · skip
    rw [hcl]
    refine Goes.iaload A R6 (i := 0) rfl (k := 2) (by decide) rfl at_57 ?_
    refine Goes.blk A _ b0_58_2 (pc' := 62) (Ls' := #[.val (.int p1), .val (.int p2), .val (.int p3), .val (.int p4), .val (.ref b1), .val (.int (2 : Int32)), .val (.int g2), .unset, .unset]) (st' := [(.int g2)]) rfl ?_
    refine Goes.if1 A at_62 (by decide) (pc' := 67) (by decide) (fun hc25 => ?_) (fun hc25 => ?_)
    · skip
      have hne : ¬ g2 = -1 := by intro q; have q9 := cP_int hc25; rw [q] at q9; simp only [cI] at q9; revert q9; decide
      refine Goes.blk A _ b0_67_4 (pc' := 73) (Ls' := #[.val (.int p1), .val (.int p2), .val (.int p3), .val (.int p4), .val (.ref b1), .val (.int (2 : Int32)), .val (.int g2), .val (.int (p3 &&& (7 : Int32))), .unset]) (st' := []) rfl ?_
      refine Goes.newObj A (hw _ (List.mem_of_getElem? (i := 1) rfl)) (hw _ (List.mem_of_getElem? (i := 2) rfl)) (hw _ (List.mem_of_getElem? (i := 3) rfl)) R6 K6 Z0 (fs := (CGs .null .null .null .null .null .null .null)) ⟨⟨Or.inr (hw _ (List.mem_of_getElem? (i := 37) rfl)), (.array .int), by decide, rfl⟩, ⟨Or.inr (hw _ (List.mem_of_getElem? (i := 35) rfl)), (.array .int), by decide, rfl⟩, ⟨Or.inr (hw _ (List.mem_of_getElem? (i := 39) rfl)), (.array .int), by decide, rfl⟩, ⟨Or.inr (hw _ (List.mem_of_getElem? (i := 33) rfl)), (.object "java/util/BitSet"), by decide, rfl⟩, ⟨Or.inr (hw _ (List.mem_of_getElem? (i := 78) rfl)), (.array .int), by decide, rfl⟩, ⟨Or.inl (hw _ (List.mem_of_getElem? (i := 108) rfl)), (.array .int), by decide, rfl⟩, ⟨Or.inl (hw _ (List.mem_of_getElem? (i := 110) rfl)), (.array .int), by decide, rfl⟩, trivial⟩ (by decide) at_73 (by decide) (by decide) (fun b26 h27 zs27 zt27 K27 R27 => ?_)
      replace R27 : Rep Z a0 n0 h27 GB [(b1, true, .inr (.int, [(.int g0), (.int g1), (.int g2), (.int g3)])), (b26, true, .inl ("com/example/stillpoint/stillpoint/spec/CallGroups", (CGs .null .null .null .null .null .null .null)))] := R27
      show Goes p l e _ s m _ below meth c n0 _ h27 2 15 76 #[.val (.int p1), .val (.int p2), .val (.int p3), .val (.int p4), .val (.ref b1), .val (.int (2 : Int32)), .val (.int g2), .val (.int (p3 &&& (7 : Int32))), .unset] [(.ref b26)]
      refine Goes.blk A _ b0_76_4 (pc' := 81) (Ls' := #[.val (.int p1), .val (.int p2), .val (.int p3), .val (.int p4), .val (.ref b1), .val (.int (2 : Int32)), .val (.int g2), .val (.int (p3 &&& (7 : Int32))), .unset]) (st' := [.null, (.int (3 : Int32)), (.ref b1), (.ref b26), (.ref b26)]) rfl ?_
      refine Goes.spec A rfl (hw _ (List.mem_of_getElem? (i := 4) rfl)) (hw _ (List.mem_of_getElem? (i := 5) rfl)) (hw _ (List.mem_of_getElem? (i := 3) rfl)) (hw _ (List.mem_of_getElem? (i := 6) rfl)) at_81 pd_328116 (by decide) (a := b26) (argsL := [(.ref b1), (.int (3 : Int32)), .null]) (rest := [(.ref b26)]) rfl rfl rfl (W := 1) (Nat.le_of_ble_eq_true rfl) (by decide) (by decide) (by decide) (by decide) (kCT l Z n0 a0 hw h27 (Nat.le_trans Z0 K27.1) b26 b1 g0 g1 g2 g3 hg0 hg1 hg2 hg3 hPu (R27.pick [0] [1, 0] rfl rfl (by decide))) (fun v h28 hh => ?_)
      obtain ⟨bs, wd, st, bg, po, fl, u, w1, f0, f1, f2, hu, rfl, zt28_0, zt28_1, zt28_2, zt28_3, zt28_4, zt28_5, Kc28, Rc28⟩ := hh
      have R28 := R27.upd Kc28 [1, 0] Rc28 (Nat.le_of_ble_eq_true rfl) rfl [1] rfl (by decide) (alS zt28_0 (alS zt28_1 (alS zt28_2 (alS zt28_3 (alS zt28_4 (alS zt28_5 al0))))))
      have K28 := K27.trans Kc28 (alS (Or.inr zs27) al0)
      replace R28 : Rep Z a0 n0 h28 GB [(b1, true, .inr (.int, [(.int g0), (.int g1), (.int g2), (.int g3)])), (b26, true, .inl ("com/example/stillpoint/stillpoint/spec/CallGroups", (CGs (.ref bg) (.ref st) (.ref po) (.ref bs) .null .null .null))), (bs, true, .inl ("java/util/BitSet", (BSs (.ref wd) (.int u) (.int (0 : Int32))))), (wd, true, .inr (.long, [(.long w1)])), (st, true, .inr (.int, [(.int (0 : Int32)), (.int (T1 g0 g1 g2 g3)), (.int (T2 g0 g1 g2 g3)), (.int (T3 g0 g1 g2 g3))])), (bg, true, .inr (.int, (BGF g0 g1 g2 g3))), (po, true, .inr (.int, [(.int (P0 g0 g1 g2 g3)), (.int (P1 g0 g1 g2 g3)), (.int (P2 g0 g1 g2 g3)), (.int (P3 g0 g1 g2 g3))])), (fl, true, .inr (.int, [(.int f0), (.int f1), (.int f2)]))] := R28
      show Goes p l e _ s m _ below meth c n0 _ h28 8 34 84 #[.val (.int p1), .val (.int p2), .val (.int p3), .val (.int p4), .val (.ref b1), .val (.int (2 : Int32)), .val (.int g2), .val (.int (p3 &&& (7 : Int32))), .unset] [(.ref b26)]
      refine Goes.blk A _ b0_84_6 (pc' := 91) (Ls' := #[.val (.int p1), .val (.int p2), .val (.int p3), .val (.int p4), .val (.ref b1), .val (.int (2 : Int32)), .val (.int g2), .val (.int (p3 &&& (7 : Int32))), .val (.ref b26)]) (st' := [(.int ((XT.ushr p4 (2 : Int32)) &&& (1 : Int32)))]) rfl ?_
      suffices J29 : ∀ (u2 : Int32) (w2 : Int64) (h29 : Heap), Keep h h29 [] → Rep Z a0 n0 h29 GB [(b1, true, .inr (.int, [(.int g0), (.int g1), (.int g2), (.int g3)])), (b26, true, .inl ("com/example/stillpoint/stillpoint/spec/CallGroups", (CGs (.ref bg) (.ref st) (.ref po) (.ref bs) .null .null .null))), (bs, true, .inl ("java/util/BitSet", (BSs (.ref wd) (.int u2) (.int (0 : Int32))))), (wd, true, .inr (.long, [(.long w2)])), (st, true, .inr (.int, [(.int (0 : Int32)), (.int (T1 g0 g1 g2 g3)), (.int (T2 g0 g1 g2 g3)), (.int (T3 g0 g1 g2 g3))])), (bg, true, .inr (.int, (BGF g0 g1 g2 g3))), (po, true, .inr (.int, [(.int (P0 g0 g1 g2 g3)), (.int (P1 g0 g1 g2 g3)), (.int (P2 g0 g1 g2 g3)), (.int (P3 g0 g1 g2 g3))])), (fl, true, .inr (.int, [(.int f0), (.int f1), (.int f2)]))] → Goes p l e room_1 s m #[(.int p1), (.int p2), (.int p3), (.int p4)] below meth c n0 (fun v _ => v = some (.int 1)) h29 8 34 102 #[.val (.int p1), .val (.int p2), .val (.int p3), .val (.int p4), .val (.ref b1), .val (.int (2 : Int32)), .val (.int g2), .val (.int (p3 &&& (7 : Int32))), .val (.ref b26)] [] by
        refine Goes.if1 A at_91 (by decide) (pc' := 102) (by decide) (fun hc30 => ?_) (fun hc30 => ?_)
        · skip
          exact J29 _ _ _ K28 R28
        obtain ⟨nq, q, hnq, hq, hq6⟩ : ∃ (n : Nat) (q : Int32), (p4 &&& (3 : Int32)).toInt = n ∧ [Value.int (P0 g0 g1 g2 g3), Value.int (P1 g0 g1 g2 g3), Value.int (P2 g0 g1 g2 g3), Value.int (P3 g0 g1 g2 g3)][n]? = some (Value.int q) ∧ (0 ≤ q.toInt → (q >>> ((6 : Int32) &&& 31)) = 0) := by
          have hP2 := hPu; simp only [pureB, Bool.and_eq_true] at hP2; obtain ⟨⟨⟨⟨-, q0⟩, q1⟩, q2⟩, q3⟩ := hP2
          rcases own_mask3 p4 with r | r | r | r <;> rw [r]
          · exact ⟨0, _, by decide, rfl, ok6_of q0⟩
          · exact ⟨1, _, by decide, rfl, ok6_of q1⟩
          · exact ⟨2, _, by decide, rfl, ok6_of q2⟩
          · exact ⟨3, _, by decide, rfl, ok6_of q3⟩
        refine Goes.blk A _ b0_94_4 (pc' := 99) (Ls' := #[.val (.int p1), .val (.int p2), .val (.int p3), .val (.int p4), .val (.ref b1), .val (.int (2 : Int32)), .val (.int g2), .val (.int (p3 &&& (7 : Int32))), .val (.ref b26)]) (st' := [(.int (p4 &&& (3 : Int32))), (.ref b26)]) rfl ?_
        rcases hu with rfl | rfl
        · skip
          refine Goes.virt A (hw _ (List.mem_of_getElem? (i := 88) rfl)) (hw _ (List.mem_of_getElem? (i := 89) rfl)) (hw _ (List.mem_of_getElem? (i := 91) rfl)) (hw _ (List.mem_of_getElem? (i := 91) rfl)) (hw _ (List.mem_of_getElem? (i := 90) rfl)) (hw _ (List.mem_of_getElem? (i := 3) rfl)) (hw _ (List.mem_of_getElem? (i := 92) rfl)) at_99 pd_727776 (by decide) (R28.exa (i := 1) rfl) (argsL := [(.int (p4 &&& (3 : Int32)))]) (rest := []) rfl rfl rfl (W := 0) (Nat.le_of_ble_eq_true rfl) (by decide) (by decide) (by decide) (by decide) (kPL0 l Z n0 a0 hw h28 (Nat.le_trans Z0 K28.1) b26 bg st po bs wd w1 [Value.int (P0 g0 g1 g2 g3), Value.int (P1 g0 g1 g2 g3), Value.int (P2 g0 g1 g2 g3), Value.int (P3 g0 g1 g2 g3)] (p4 &&& (3 : Int32)) q nq hnq hq hq6 (R28.pick [0] [1, 6, 2, 3] rfl rfl (by decide))) (fun v h31 hh => ?_)
          obtain ⟨u2, w2, hu2, rfl, Kc31, Rc31⟩ := hh
          have R31 := R28.upd Kc31 [1, 6, 2, 3] Rc31 (Nat.le_of_ble_eq_true rfl) rfl [2, 3] rfl (by decide) al0
          have K31 := K28.trans Kc31 (alS (Or.inr (Nat.le_trans K27.1 zt28_0)) (alS (Or.inr (Nat.le_trans K27.1 zt28_1)) al0))
          replace R31 : Rep Z a0 n0 h31 GB [(b1, true, .inr (.int, [(.int g0), (.int g1), (.int g2), (.int g3)])), (b26, true, .inl ("com/example/stillpoint/stillpoint/spec/CallGroups", (CGs (.ref bg) (.ref st) (.ref po) (.ref bs) .null .null .null))), (bs, true, .inl ("java/util/BitSet", (BSs (.ref wd) (.int u2) (.int (0 : Int32))))), (wd, true, .inr (.long, [(.long w2)])), (st, true, .inr (.int, [(.int (0 : Int32)), (.int (T1 g0 g1 g2 g3)), (.int (T2 g0 g1 g2 g3)), (.int (T3 g0 g1 g2 g3))])), (bg, true, .inr (.int, (BGF g0 g1 g2 g3))), (po, true, .inr (.int, [(.int (P0 g0 g1 g2 g3)), (.int (P1 g0 g1 g2 g3)), (.int (P2 g0 g1 g2 g3)), (.int (P3 g0 g1 g2 g3))])), (fl, true, .inr (.int, [(.int f0), (.int f1), (.int f2)]))] := R31
          show Goes p l e _ s m _ below meth c n0 _ h31 8 34 102 #[.val (.int p1), .val (.int p2), .val (.int p3), .val (.int p4), .val (.ref b1), .val (.int (2 : Int32)), .val (.int g2), .val (.int (p3 &&& (7 : Int32))), .val (.ref b26)] []
          exact J29 _ _ _ K31 R31
        · skip
          refine Goes.virt A (hw _ (List.mem_of_getElem? (i := 88) rfl)) (hw _ (List.mem_of_getElem? (i := 89) rfl)) (hw _ (List.mem_of_getElem? (i := 91) rfl)) (hw _ (List.mem_of_getElem? (i := 91) rfl)) (hw _ (List.mem_of_getElem? (i := 90) rfl)) (hw _ (List.mem_of_getElem? (i := 3) rfl)) (hw _ (List.mem_of_getElem? (i := 92) rfl)) at_99 pd_727776 (by decide) (R28.exa (i := 1) rfl) (argsL := [(.int (p4 &&& (3 : Int32)))]) (rest := []) rfl rfl rfl (W := 0) (Nat.le_of_ble_eq_true rfl) (by decide) (by decide) (by decide) (by decide) (kPL1 l Z n0 a0 hw h28 (Nat.le_trans Z0 K28.1) b26 bg st po bs wd w1 [Value.int (P0 g0 g1 g2 g3), Value.int (P1 g0 g1 g2 g3), Value.int (P2 g0 g1 g2 g3), Value.int (P3 g0 g1 g2 g3)] (p4 &&& (3 : Int32)) q nq hnq hq hq6 (R28.pick [0] [1, 6, 2, 3] rfl rfl (by decide))) (fun v h32 hh => ?_)
          obtain ⟨u2, w2, hu2, rfl, Kc32, Rc32⟩ := hh
          have R32 := R28.upd Kc32 [1, 6, 2, 3] Rc32 (Nat.le_of_ble_eq_true rfl) rfl [2, 3] rfl (by decide) al0
          have K32 := K28.trans Kc32 (alS (Or.inr (Nat.le_trans K27.1 zt28_0)) (alS (Or.inr (Nat.le_trans K27.1 zt28_1)) al0))
          replace R32 : Rep Z a0 n0 h32 GB [(b1, true, .inr (.int, [(.int g0), (.int g1), (.int g2), (.int g3)])), (b26, true, .inl ("com/example/stillpoint/stillpoint/spec/CallGroups", (CGs (.ref bg) (.ref st) (.ref po) (.ref bs) .null .null .null))), (bs, true, .inl ("java/util/BitSet", (BSs (.ref wd) (.int u2) (.int (0 : Int32))))), (wd, true, .inr (.long, [(.long w2)])), (st, true, .inr (.int, [(.int (0 : Int32)), (.int (T1 g0 g1 g2 g3)), (.int (T2 g0 g1 g2 g3)), (.int (T3 g0 g1 g2 g3))])), (bg, true, .inr (.int, (BGF g0 g1 g2 g3))), (po, true, .inr (.int, [(.int (P0 g0 g1 g2 g3)), (.int (P1 g0 g1 g2 g3)), (.int (P2 g0 g1 g2 g3)), (.int (P3 g0 g1 g2 g3))])), (fl, true, .inr (.int, [(.int f0), (.int f1), (.int f2)]))] := R32
          show Goes p l e _ s m _ below meth c n0 _ h32 8 34 102 #[.val (.int p1), .val (.int p2), .val (.int p3), .val (.int p4), .val (.ref b1), .val (.int (2 : Int32)), .val (.int g2), .val (.int (p3 &&& (7 : Int32))), .val (.ref b26)] []
          exact J29 _ _ _ K32 R32
      intro u2 w2 h29  K29 R29
      obtain ⟨n2, sv, hn2, hs2, hT, hF⟩ := mainB_ok (g0 := g0) (g1 := g1) (g2 := g2) (g3 := g3) (g := g2) (q := P2 g0 g1 g2 g3) (k := (p3 &&& (7 : Int32))) (cl := 2) (xs := [(g3, 3)]) (by
        obtain ⟨j, hj⟩ := own_k8 hk8; obtain ⟨i0, z0⟩ := gv_of hg0; obtain ⟨i1, z1⟩ := gv_of hg1; obtain ⟨i2, z2⟩ := gv_of hg2; obtain ⟨i3, z3⟩ := gv_of hg3
        rw [hj, z0, z1, z2, z3]; exact main_all2 i0 i1 i2 i3 j) hne
      refine Goes.blk A _ b0_102_4 (pc' := 110) (Ls' := #[.val (.int p1), .val (.int p2), .val (.int p3), .val (.int p4), .val (.ref b1), .val (.int (2 : Int32)), .val (.int g2), .val (.int (p3 &&& (7 : Int32))), .val (.ref b26)]) (st' := [(.int (p3 &&& (7 : Int32))), (.int (2 : Int32)), (.int g2), (.ref b26)]) rfl ?_
      refine Goes.virt A (hw _ (List.mem_of_getElem? (i := 79) rfl)) (hw _ (List.mem_of_getElem? (i := 80) rfl)) (hw _ (List.mem_of_getElem? (i := 82) rfl)) (hw _ (List.mem_of_getElem? (i := 82) rfl)) (hw _ (List.mem_of_getElem? (i := 81) rfl)) (hw _ (List.mem_of_getElem? (i := 3) rfl)) (hw _ (List.mem_of_getElem? (i := 83) rfl)) at_110 pd_332799 (by decide) (R29.exa (i := 1) rfl) (argsL := [(.int g2), (.int (2 : Int32)), (.int (p3 &&& (7 : Int32)))]) (rest := []) rfl rfl rfl (W := 0) (Nat.le_of_ble_eq_true rfl) (by decide) (by decide) (by decide) (by decide) (kCA l Z n0 a0 hw h29 (Nat.le_trans Z0 K29.1) b26 bg st po bs [Value.int (P0 g0 g1 g2 g3), Value.int (P1 g0 g1 g2 g3), Value.int (P2 g0 g1 g2 g3), Value.int (P3 g0 g1 g2 g3)] [Value.int 0, .int (T1 g0 g1 g2 g3), .int (T2 g0 g1 g2 g3), .int (T3 g0 g1 g2 g3)] (BGF g0 g1 g2 g3) g2 2 (p3 &&& (7 : Int32)) (P2 g0 g1 g2 g3) sv (rfF g2 (p3 &&& (7 : Int32)) 2 [(g3, 3)]) 2 n2 (by decide) rfl hn2 hs2 hT hF (R29.pick [0] [1, 6, 4, 5] rfl rfl (by decide))) (fun v hq hh => ?_)
      obtain ⟨rfl, rfl⟩ := hh
      show Goes p l e _ s m _ below meth c n0 _ h29 8 34 113 #[.val (.int p1), .val (.int p2), .val (.int p3), .val (.int p4), .val (.ref b1), .val (.int (2 : Int32)), .val (.int g2), .val (.int (p3 &&& (7 : Int32))), .val (.ref b26)] [(.int (rfF g2 (p3 &&& (7 : Int32)) 2 [(g3, 3)]))]
      refine Goes.blk A _ b0_113_4 (pc' := 121) (Ls' := #[.val (.int p1), .val (.int p2), .val (.int p3), .val (.int p4), .val (.ref b1), .val (.int (2 : Int32)), .val (.int g2), .val (.int (p3 &&& (7 : Int32))), .val (.ref b26)]) (st' := [(.int (p3 &&& (7 : Int32))), (.int (2 : Int32)), (.int g2), (.ref b1), (.int (rfF g2 (p3 &&& (7 : Int32)) 2 [(g3, 3)]))]) rfl ?_
      refine Goes.static A (hw _ (List.mem_of_getElem? (i := 84) rfl)) (hw _ (List.mem_of_getElem? (i := 85) rfl)) (hw _ (List.mem_of_getElem? (i := 86) rfl)) (hw _ (List.mem_of_getElem? (i := 87) rfl)) at_121 pd_791868 (by decide) (argsL := [(.ref b1), (.int g2), (.int (2 : Int32)), (.int (p3 &&& (7 : Int32)))]) (rest := [(.int (rfF g2 (p3 &&& (7 : Int32)) 2 [(g3, 3)]))]) rfl rfl rfl (W := 1) (Nat.le_of_ble_eq_true rfl) (by decide) (by decide) (by decide) (by decide) (kRF2 l Z n0 a0 hw h29 (Nat.le_trans Z0 K29.1) b1 g2 (p3 &&& (7 : Int32)) g0 g1 g2 g3 (R29.pick [0] [0] rfl rfl (by decide))) (fun v hq hh => ?_)
      obtain ⟨rfl, rfl⟩ := hh
      show Goes p l e _ s m _ below meth c n0 _ h29 8 34 124 #[.val (.int p1), .val (.int p2), .val (.int p3), .val (.int p4), .val (.ref b1), .val (.int (2 : Int32)), .val (.int g2), .val (.int (p3 &&& (7 : Int32))), .val (.ref b26)] [(.int (rfF g2 (p3 &&& (7 : Int32)) 2 [(g3, 3)])), (.int (rfF g2 (p3 &&& (7 : Int32)) 2 [(g3, 3)]))]
      refine Goes.if2 A at_124 (by decide) (pc' := 131) (by decide) (fun hc => absurd rfl hc) (fun hc33 => ?_)
      refine Goes.blk A _ b0_127_1 (pc' := 128) (Ls' := #[.val (.int p1), .val (.int p2), .val (.int p3), .val (.int p4), .val (.ref b1), .val (.int (2 : Int32)), .val (.int g2), .val (.int (p3 &&& (7 : Int32))), .val (.ref b26)]) (st' := [(.int (1 : Int32))]) rfl ?_
      refine Goes.jump A at_128 (by decide) (pc' := 132) (by decide) ?_
      exact Goes.retB A hret (by simp) hlk at_132 (z' := 1) (by decide) (by decide) (by decide) rfl
    refine Goes.blk A _ b0_65_1 (pc' := 66) (Ls' := #[.val (.int p1), .val (.int p2), .val (.int p3), .val (.int p4), .val (.ref b1), .val (.int (2 : Int32)), .val (.int g2), .unset, .unset]) (st' := [(.int (1 : Int32))]) rfl ?_
    exact Goes.retB A hret (by simp) hlk at_66 (z' := 1) (by decide) (by decide) (by decide) rfl
  · skip
    rw [hcl]
    refine Goes.iaload A R6 (i := 0) rfl (k := 3) (by decide) rfl at_57 ?_
    refine Goes.blk A _ b0_58_2 (pc' := 62) (Ls' := #[.val (.int p1), .val (.int p2), .val (.int p3), .val (.int p4), .val (.ref b1), .val (.int (3 : Int32)), .val (.int g3), .unset, .unset]) (st' := [(.int g3)]) rfl ?_
    refine Goes.if1 A at_62 (by decide) (pc' := 67) (by decide) (fun hc34 => ?_) (fun hc34 => ?_)
    · skip
      have hne : ¬ g3 = -1 := by intro q; have q9 := cP_int hc34; rw [q] at q9; simp only [cI] at q9; revert q9; decide
      refine Goes.blk A _ b0_67_4 (pc' := 73) (Ls' := #[.val (.int p1), .val (.int p2), .val (.int p3), .val (.int p4), .val (.ref b1), .val (.int (3 : Int32)), .val (.int g3), .val (.int (p3 &&& (7 : Int32))), .unset]) (st' := []) rfl ?_
      refine Goes.newObj A (hw _ (List.mem_of_getElem? (i := 1) rfl)) (hw _ (List.mem_of_getElem? (i := 2) rfl)) (hw _ (List.mem_of_getElem? (i := 3) rfl)) R6 K6 Z0 (fs := (CGs .null .null .null .null .null .null .null)) ⟨⟨Or.inr (hw _ (List.mem_of_getElem? (i := 37) rfl)), (.array .int), by decide, rfl⟩, ⟨Or.inr (hw _ (List.mem_of_getElem? (i := 35) rfl)), (.array .int), by decide, rfl⟩, ⟨Or.inr (hw _ (List.mem_of_getElem? (i := 39) rfl)), (.array .int), by decide, rfl⟩, ⟨Or.inr (hw _ (List.mem_of_getElem? (i := 33) rfl)), (.object "java/util/BitSet"), by decide, rfl⟩, ⟨Or.inr (hw _ (List.mem_of_getElem? (i := 78) rfl)), (.array .int), by decide, rfl⟩, ⟨Or.inl (hw _ (List.mem_of_getElem? (i := 108) rfl)), (.array .int), by decide, rfl⟩, ⟨Or.inl (hw _ (List.mem_of_getElem? (i := 110) rfl)), (.array .int), by decide, rfl⟩, trivial⟩ (by decide) at_73 (by decide) (by decide) (fun b35 h36 zs36 zt36 K36 R36 => ?_)
      replace R36 : Rep Z a0 n0 h36 GB [(b1, true, .inr (.int, [(.int g0), (.int g1), (.int g2), (.int g3)])), (b35, true, .inl ("com/example/stillpoint/stillpoint/spec/CallGroups", (CGs .null .null .null .null .null .null .null)))] := R36
      show Goes p l e _ s m _ below meth c n0 _ h36 2 15 76 #[.val (.int p1), .val (.int p2), .val (.int p3), .val (.int p4), .val (.ref b1), .val (.int (3 : Int32)), .val (.int g3), .val (.int (p3 &&& (7 : Int32))), .unset] [(.ref b35)]
      refine Goes.blk A _ b0_76_4 (pc' := 81) (Ls' := #[.val (.int p1), .val (.int p2), .val (.int p3), .val (.int p4), .val (.ref b1), .val (.int (3 : Int32)), .val (.int g3), .val (.int (p3 &&& (7 : Int32))), .unset]) (st' := [.null, (.int (3 : Int32)), (.ref b1), (.ref b35), (.ref b35)]) rfl ?_
      refine Goes.spec A rfl (hw _ (List.mem_of_getElem? (i := 4) rfl)) (hw _ (List.mem_of_getElem? (i := 5) rfl)) (hw _ (List.mem_of_getElem? (i := 3) rfl)) (hw _ (List.mem_of_getElem? (i := 6) rfl)) at_81 pd_328116 (by decide) (a := b35) (argsL := [(.ref b1), (.int (3 : Int32)), .null]) (rest := [(.ref b35)]) rfl rfl rfl (W := 1) (Nat.le_of_ble_eq_true rfl) (by decide) (by decide) (by decide) (by decide) (kCT l Z n0 a0 hw h36 (Nat.le_trans Z0 K36.1) b35 b1 g0 g1 g2 g3 hg0 hg1 hg2 hg3 hPu (R36.pick [0] [1, 0] rfl rfl (by decide))) (fun v h37 hh => ?_)
      obtain ⟨bs, wd, st, bg, po, fl, u, w1, f0, f1, f2, hu, rfl, zt37_0, zt37_1, zt37_2, zt37_3, zt37_4, zt37_5, Kc37, Rc37⟩ := hh
      have R37 := R36.upd Kc37 [1, 0] Rc37 (Nat.le_of_ble_eq_true rfl) rfl [1] rfl (by decide) (alS zt37_0 (alS zt37_1 (alS zt37_2 (alS zt37_3 (alS zt37_4 (alS zt37_5 al0))))))
      have K37 := K36.trans Kc37 (alS (Or.inr zs36) al0)
      replace R37 : Rep Z a0 n0 h37 GB [(b1, true, .inr (.int, [(.int g0), (.int g1), (.int g2), (.int g3)])), (b35, true, .inl ("com/example/stillpoint/stillpoint/spec/CallGroups", (CGs (.ref bg) (.ref st) (.ref po) (.ref bs) .null .null .null))), (bs, true, .inl ("java/util/BitSet", (BSs (.ref wd) (.int u) (.int (0 : Int32))))), (wd, true, .inr (.long, [(.long w1)])), (st, true, .inr (.int, [(.int (0 : Int32)), (.int (T1 g0 g1 g2 g3)), (.int (T2 g0 g1 g2 g3)), (.int (T3 g0 g1 g2 g3))])), (bg, true, .inr (.int, (BGF g0 g1 g2 g3))), (po, true, .inr (.int, [(.int (P0 g0 g1 g2 g3)), (.int (P1 g0 g1 g2 g3)), (.int (P2 g0 g1 g2 g3)), (.int (P3 g0 g1 g2 g3))])), (fl, true, .inr (.int, [(.int f0), (.int f1), (.int f2)]))] := R37
      show Goes p l e _ s m _ below meth c n0 _ h37 8 34 84 #[.val (.int p1), .val (.int p2), .val (.int p3), .val (.int p4), .val (.ref b1), .val (.int (3 : Int32)), .val (.int g3), .val (.int (p3 &&& (7 : Int32))), .unset] [(.ref b35)]
      refine Goes.blk A _ b0_84_6 (pc' := 91) (Ls' := #[.val (.int p1), .val (.int p2), .val (.int p3), .val (.int p4), .val (.ref b1), .val (.int (3 : Int32)), .val (.int g3), .val (.int (p3 &&& (7 : Int32))), .val (.ref b35)]) (st' := [(.int ((XT.ushr p4 (2 : Int32)) &&& (1 : Int32)))]) rfl ?_
      suffices J38 : ∀ (u2 : Int32) (w2 : Int64) (h38 : Heap), Keep h h38 [] → Rep Z a0 n0 h38 GB [(b1, true, .inr (.int, [(.int g0), (.int g1), (.int g2), (.int g3)])), (b35, true, .inl ("com/example/stillpoint/stillpoint/spec/CallGroups", (CGs (.ref bg) (.ref st) (.ref po) (.ref bs) .null .null .null))), (bs, true, .inl ("java/util/BitSet", (BSs (.ref wd) (.int u2) (.int (0 : Int32))))), (wd, true, .inr (.long, [(.long w2)])), (st, true, .inr (.int, [(.int (0 : Int32)), (.int (T1 g0 g1 g2 g3)), (.int (T2 g0 g1 g2 g3)), (.int (T3 g0 g1 g2 g3))])), (bg, true, .inr (.int, (BGF g0 g1 g2 g3))), (po, true, .inr (.int, [(.int (P0 g0 g1 g2 g3)), (.int (P1 g0 g1 g2 g3)), (.int (P2 g0 g1 g2 g3)), (.int (P3 g0 g1 g2 g3))])), (fl, true, .inr (.int, [(.int f0), (.int f1), (.int f2)]))] → Goes p l e room_1 s m #[(.int p1), (.int p2), (.int p3), (.int p4)] below meth c n0 (fun v _ => v = some (.int 1)) h38 8 34 102 #[.val (.int p1), .val (.int p2), .val (.int p3), .val (.int p4), .val (.ref b1), .val (.int (3 : Int32)), .val (.int g3), .val (.int (p3 &&& (7 : Int32))), .val (.ref b35)] [] by
        refine Goes.if1 A at_91 (by decide) (pc' := 102) (by decide) (fun hc39 => ?_) (fun hc39 => ?_)
        · skip
          exact J38 _ _ _ K37 R37
        obtain ⟨nq, q, hnq, hq, hq6⟩ : ∃ (n : Nat) (q : Int32), (p4 &&& (3 : Int32)).toInt = n ∧ [Value.int (P0 g0 g1 g2 g3), Value.int (P1 g0 g1 g2 g3), Value.int (P2 g0 g1 g2 g3), Value.int (P3 g0 g1 g2 g3)][n]? = some (Value.int q) ∧ (0 ≤ q.toInt → (q >>> ((6 : Int32) &&& 31)) = 0) := by
          have hP2 := hPu; simp only [pureB, Bool.and_eq_true] at hP2; obtain ⟨⟨⟨⟨-, q0⟩, q1⟩, q2⟩, q3⟩ := hP2
          rcases own_mask3 p4 with r | r | r | r <;> rw [r]
          · exact ⟨0, _, by decide, rfl, ok6_of q0⟩
          · exact ⟨1, _, by decide, rfl, ok6_of q1⟩
          · exact ⟨2, _, by decide, rfl, ok6_of q2⟩
          · exact ⟨3, _, by decide, rfl, ok6_of q3⟩
        refine Goes.blk A _ b0_94_4 (pc' := 99) (Ls' := #[.val (.int p1), .val (.int p2), .val (.int p3), .val (.int p4), .val (.ref b1), .val (.int (3 : Int32)), .val (.int g3), .val (.int (p3 &&& (7 : Int32))), .val (.ref b35)]) (st' := [(.int (p4 &&& (3 : Int32))), (.ref b35)]) rfl ?_
        rcases hu with rfl | rfl
        · skip
          refine Goes.virt A (hw _ (List.mem_of_getElem? (i := 88) rfl)) (hw _ (List.mem_of_getElem? (i := 89) rfl)) (hw _ (List.mem_of_getElem? (i := 91) rfl)) (hw _ (List.mem_of_getElem? (i := 91) rfl)) (hw _ (List.mem_of_getElem? (i := 90) rfl)) (hw _ (List.mem_of_getElem? (i := 3) rfl)) (hw _ (List.mem_of_getElem? (i := 92) rfl)) at_99 pd_727776 (by decide) (R37.exa (i := 1) rfl) (argsL := [(.int (p4 &&& (3 : Int32)))]) (rest := []) rfl rfl rfl (W := 0) (Nat.le_of_ble_eq_true rfl) (by decide) (by decide) (by decide) (by decide) (kPL0 l Z n0 a0 hw h37 (Nat.le_trans Z0 K37.1) b35 bg st po bs wd w1 [Value.int (P0 g0 g1 g2 g3), Value.int (P1 g0 g1 g2 g3), Value.int (P2 g0 g1 g2 g3), Value.int (P3 g0 g1 g2 g3)] (p4 &&& (3 : Int32)) q nq hnq hq hq6 (R37.pick [0] [1, 6, 2, 3] rfl rfl (by decide))) (fun v h40 hh => ?_)
          obtain ⟨u2, w2, hu2, rfl, Kc40, Rc40⟩ := hh
          have R40 := R37.upd Kc40 [1, 6, 2, 3] Rc40 (Nat.le_of_ble_eq_true rfl) rfl [2, 3] rfl (by decide) al0
          have K40 := K37.trans Kc40 (alS (Or.inr (Nat.le_trans K36.1 zt37_0)) (alS (Or.inr (Nat.le_trans K36.1 zt37_1)) al0))
          replace R40 : Rep Z a0 n0 h40 GB [(b1, true, .inr (.int, [(.int g0), (.int g1), (.int g2), (.int g3)])), (b35, true, .inl ("com/example/stillpoint/stillpoint/spec/CallGroups", (CGs (.ref bg) (.ref st) (.ref po) (.ref bs) .null .null .null))), (bs, true, .inl ("java/util/BitSet", (BSs (.ref wd) (.int u2) (.int (0 : Int32))))), (wd, true, .inr (.long, [(.long w2)])), (st, true, .inr (.int, [(.int (0 : Int32)), (.int (T1 g0 g1 g2 g3)), (.int (T2 g0 g1 g2 g3)), (.int (T3 g0 g1 g2 g3))])), (bg, true, .inr (.int, (BGF g0 g1 g2 g3))), (po, true, .inr (.int, [(.int (P0 g0 g1 g2 g3)), (.int (P1 g0 g1 g2 g3)), (.int (P2 g0 g1 g2 g3)), (.int (P3 g0 g1 g2 g3))])), (fl, true, .inr (.int, [(.int f0), (.int f1), (.int f2)]))] := R40
          show Goes p l e _ s m _ below meth c n0 _ h40 8 34 102 #[.val (.int p1), .val (.int p2), .val (.int p3), .val (.int p4), .val (.ref b1), .val (.int (3 : Int32)), .val (.int g3), .val (.int (p3 &&& (7 : Int32))), .val (.ref b35)] []
          exact J38 _ _ _ K40 R40
        · skip
          refine Goes.virt A (hw _ (List.mem_of_getElem? (i := 88) rfl)) (hw _ (List.mem_of_getElem? (i := 89) rfl)) (hw _ (List.mem_of_getElem? (i := 91) rfl)) (hw _ (List.mem_of_getElem? (i := 91) rfl)) (hw _ (List.mem_of_getElem? (i := 90) rfl)) (hw _ (List.mem_of_getElem? (i := 3) rfl)) (hw _ (List.mem_of_getElem? (i := 92) rfl)) at_99 pd_727776 (by decide) (R37.exa (i := 1) rfl) (argsL := [(.int (p4 &&& (3 : Int32)))]) (rest := []) rfl rfl rfl (W := 0) (Nat.le_of_ble_eq_true rfl) (by decide) (by decide) (by decide) (by decide) (kPL1 l Z n0 a0 hw h37 (Nat.le_trans Z0 K37.1) b35 bg st po bs wd w1 [Value.int (P0 g0 g1 g2 g3), Value.int (P1 g0 g1 g2 g3), Value.int (P2 g0 g1 g2 g3), Value.int (P3 g0 g1 g2 g3)] (p4 &&& (3 : Int32)) q nq hnq hq hq6 (R37.pick [0] [1, 6, 2, 3] rfl rfl (by decide))) (fun v h41 hh => ?_)
          obtain ⟨u2, w2, hu2, rfl, Kc41, Rc41⟩ := hh
          have R41 := R37.upd Kc41 [1, 6, 2, 3] Rc41 (Nat.le_of_ble_eq_true rfl) rfl [2, 3] rfl (by decide) al0
          have K41 := K37.trans Kc41 (alS (Or.inr (Nat.le_trans K36.1 zt37_0)) (alS (Or.inr (Nat.le_trans K36.1 zt37_1)) al0))
          replace R41 : Rep Z a0 n0 h41 GB [(b1, true, .inr (.int, [(.int g0), (.int g1), (.int g2), (.int g3)])), (b35, true, .inl ("com/example/stillpoint/stillpoint/spec/CallGroups", (CGs (.ref bg) (.ref st) (.ref po) (.ref bs) .null .null .null))), (bs, true, .inl ("java/util/BitSet", (BSs (.ref wd) (.int u2) (.int (0 : Int32))))), (wd, true, .inr (.long, [(.long w2)])), (st, true, .inr (.int, [(.int (0 : Int32)), (.int (T1 g0 g1 g2 g3)), (.int (T2 g0 g1 g2 g3)), (.int (T3 g0 g1 g2 g3))])), (bg, true, .inr (.int, (BGF g0 g1 g2 g3))), (po, true, .inr (.int, [(.int (P0 g0 g1 g2 g3)), (.int (P1 g0 g1 g2 g3)), (.int (P2 g0 g1 g2 g3)), (.int (P3 g0 g1 g2 g3))])), (fl, true, .inr (.int, [(.int f0), (.int f1), (.int f2)]))] := R41
          show Goes p l e _ s m _ below meth c n0 _ h41 8 34 102 #[.val (.int p1), .val (.int p2), .val (.int p3), .val (.int p4), .val (.ref b1), .val (.int (3 : Int32)), .val (.int g3), .val (.int (p3 &&& (7 : Int32))), .val (.ref b35)] []
          exact J38 _ _ _ K41 R41
      intro u2 w2 h38  K38 R38
      obtain ⟨n2, sv, hn2, hs2, hT, hF⟩ := mainB_ok (g0 := g0) (g1 := g1) (g2 := g2) (g3 := g3) (g := g3) (q := P3 g0 g1 g2 g3) (k := (p3 &&& (7 : Int32))) (cl := 3) (xs := []) (by
        obtain ⟨j, hj⟩ := own_k8 hk8; obtain ⟨i0, z0⟩ := gv_of hg0; obtain ⟨i1, z1⟩ := gv_of hg1; obtain ⟨i2, z2⟩ := gv_of hg2; obtain ⟨i3, z3⟩ := gv_of hg3
        rw [hj, z0, z1, z2, z3]; exact main_all3 i0 i1 i2 i3 j) hne
      refine Goes.blk A _ b0_102_4 (pc' := 110) (Ls' := #[.val (.int p1), .val (.int p2), .val (.int p3), .val (.int p4), .val (.ref b1), .val (.int (3 : Int32)), .val (.int g3), .val (.int (p3 &&& (7 : Int32))), .val (.ref b35)]) (st' := [(.int (p3 &&& (7 : Int32))), (.int (3 : Int32)), (.int g3), (.ref b35)]) rfl ?_
      refine Goes.virt A (hw _ (List.mem_of_getElem? (i := 79) rfl)) (hw _ (List.mem_of_getElem? (i := 80) rfl)) (hw _ (List.mem_of_getElem? (i := 82) rfl)) (hw _ (List.mem_of_getElem? (i := 82) rfl)) (hw _ (List.mem_of_getElem? (i := 81) rfl)) (hw _ (List.mem_of_getElem? (i := 3) rfl)) (hw _ (List.mem_of_getElem? (i := 83) rfl)) at_110 pd_332799 (by decide) (R38.exa (i := 1) rfl) (argsL := [(.int g3), (.int (3 : Int32)), (.int (p3 &&& (7 : Int32)))]) (rest := []) rfl rfl rfl (W := 0) (Nat.le_of_ble_eq_true rfl) (by decide) (by decide) (by decide) (by decide) (kCA l Z n0 a0 hw h38 (Nat.le_trans Z0 K38.1) b35 bg st po bs [Value.int (P0 g0 g1 g2 g3), Value.int (P1 g0 g1 g2 g3), Value.int (P2 g0 g1 g2 g3), Value.int (P3 g0 g1 g2 g3)] [Value.int 0, .int (T1 g0 g1 g2 g3), .int (T2 g0 g1 g2 g3), .int (T3 g0 g1 g2 g3)] (BGF g0 g1 g2 g3) g3 3 (p3 &&& (7 : Int32)) (P3 g0 g1 g2 g3) sv (rfF g3 (p3 &&& (7 : Int32)) 3 []) 3 n2 (by decide) rfl hn2 hs2 hT hF (R38.pick [0] [1, 6, 4, 5] rfl rfl (by decide))) (fun v hq hh => ?_)
      obtain ⟨rfl, rfl⟩ := hh
      show Goes p l e _ s m _ below meth c n0 _ h38 8 34 113 #[.val (.int p1), .val (.int p2), .val (.int p3), .val (.int p4), .val (.ref b1), .val (.int (3 : Int32)), .val (.int g3), .val (.int (p3 &&& (7 : Int32))), .val (.ref b35)] [(.int (rfF g3 (p3 &&& (7 : Int32)) 3 []))]
      refine Goes.blk A _ b0_113_4 (pc' := 121) (Ls' := #[.val (.int p1), .val (.int p2), .val (.int p3), .val (.int p4), .val (.ref b1), .val (.int (3 : Int32)), .val (.int g3), .val (.int (p3 &&& (7 : Int32))), .val (.ref b35)]) (st' := [(.int (p3 &&& (7 : Int32))), (.int (3 : Int32)), (.int g3), (.ref b1), (.int (rfF g3 (p3 &&& (7 : Int32)) 3 []))]) rfl ?_
      refine Goes.static A (hw _ (List.mem_of_getElem? (i := 84) rfl)) (hw _ (List.mem_of_getElem? (i := 85) rfl)) (hw _ (List.mem_of_getElem? (i := 86) rfl)) (hw _ (List.mem_of_getElem? (i := 87) rfl)) at_121 pd_791868 (by decide) (argsL := [(.ref b1), (.int g3), (.int (3 : Int32)), (.int (p3 &&& (7 : Int32)))]) (rest := [(.int (rfF g3 (p3 &&& (7 : Int32)) 3 []))]) rfl rfl rfl (W := 1) (Nat.le_of_ble_eq_true rfl) (by decide) (by decide) (by decide) (by decide) (kRF3 l Z n0 a0 hw h38 (Nat.le_trans Z0 K38.1) b1 g3 (p3 &&& (7 : Int32)) g0 g1 g2 g3 (R38.pick [0] [0] rfl rfl (by decide))) (fun v hq hh => ?_)
      obtain ⟨rfl, rfl⟩ := hh
      show Goes p l e _ s m _ below meth c n0 _ h38 8 34 124 #[.val (.int p1), .val (.int p2), .val (.int p3), .val (.int p4), .val (.ref b1), .val (.int (3 : Int32)), .val (.int g3), .val (.int (p3 &&& (7 : Int32))), .val (.ref b35)] [(.int (rfF g3 (p3 &&& (7 : Int32)) 3 [])), (.int (rfF g3 (p3 &&& (7 : Int32)) 3 []))]
      refine Goes.if2 A at_124 (by decide) (pc' := 131) (by decide) (fun hc => absurd rfl hc) (fun hc42 => ?_)
      refine Goes.blk A _ b0_127_1 (pc' := 128) (Ls' := #[.val (.int p1), .val (.int p2), .val (.int p3), .val (.int p4), .val (.ref b1), .val (.int (3 : Int32)), .val (.int g3), .val (.int (p3 &&& (7 : Int32))), .val (.ref b35)]) (st' := [(.int (1 : Int32))]) rfl ?_
      refine Goes.jump A at_128 (by decide) (pc' := 132) (by decide) ?_
      exact Goes.retB A hret (by simp) hlk at_132 (z' := 1) (by decide) (by decide) (by decide) rfl
    refine Goes.blk A _ b0_65_1 (pc' := 66) (Ls' := #[.val (.int p1), .val (.int p2), .val (.int p3), .val (.int p4), .val (.ref b1), .val (.int (3 : Int32)), .val (.int g3), .unset, .unset]) (st' := [(.int (1 : Int32))]) rfl ?_
    exact Goes.retB A hret (by simp) hlk at_66 (z' := 1) (by decide) (by decide) (by decide) rfl
theorem own_sta {args : Array Value} {s : State} {C n d : String} {k : Int32} (hq : (Jvm.Cond.eq (Term.static C n d) (Term.int k)).before args s = true) (hi : (Jvm.Cond.initializedFor C n d).before args s = true ∨ ((Jvm.Cond.initialized C).before args s = true ∧ (Jvm.Cond.laysStatic C n d).before args s = true)) : Sta s s.heap C n d (.int k) := by
  have hq2 := Cond.before_iff.mp hq
  refine Sta.start (args := args) ?_ hi
  have e2 : (Term.int k).eval args s none [] s = some (.int k) := rfl
  simp only [Cond.value] at hq2
  rw [e2] at hq2
  cases hf : (Term.static C n d).eval args s none [] s with
  | none => rw [hf] at hq2; cases hq2
  | some v => rw [hf] at hq2; cases v <;> simp at hq2 ⊢; exact hq2

set_option maxRecDepth 65536 in
set_option maxHeartbeats 40000000 in
theorem comes_1 {Post : Tables → Env → Array Value → State → Outcome → State → Prop} (hpost : ∀ tb e args s v u, (limb_1_1.after args s (.returned v) u = true ∧ limb_1_2.after args s (.returned v) u = true ∧ True) → FrameEnd s (.returned v) u (Jvm.fieldLocs frame_1_writes args s ++ Jvm.arrayLocs frame_1_arrays args s ++ Jvm.staticLocs frame_1_statics s) 24 192 → Post tb e args s (.returned v) u) :
    ArmFor flags0 classFile x code maxLocals ret World_1 tables_1 room_1 Calls_1 rest_1 Pre_1 Post := by
  intro l hfl _ _ p e ha hc hk s m args below hf hA hF happ hP
  obtain ⟨hcalls, hrest, hpre⟩ := hP
  obtain ⟨-, -, -, hnamed, -, -, -, hat⟩ := (Spec.applies_iff hf).mp happ
  obtain ⟨hg, hn⟩ := and_e (Cond.before_iff.mp (show (Jvm.Cond.and given_1 narrow_1).before args s = true from hpre))
  obtain ⟨gc, g0⟩ := and_e hg
  obtain ⟨w0, w1, w2, w3, rfl⟩ : ∃ w0 w1 w2 w3 : Value, args = #[w0, w1, w2, w3] := by
    have hs : args.size = 4 := by simpa [Cond.value, given_1] using gc
    obtain ⟨L⟩ := args
    match L, hs with
    | [w0, w1, w2, w3], _ => exact ⟨w0, w1, w2, w3, rfl⟩
  have hw := fun d (hd : d ∈ tables_1) => atoms_spec (ws := Jvm.Cond.code x code maxLocals ret :: tables_1) hat d (List.mem_cons_of_mem _ hd)
  have hfit : Fit s := fun {y c} hc i hi => by
    obtain ⟨ha, rfl⟩ := Array.getElem?_eq_some_iff.mp hc
    have q := List.all_eq_true.mp ((Array.all_eq_true_iff_forall_mem.mp hF) _ (Array.getElem_mem ha)) i (List.mem_range.mpr hi)
    simpa [Array.getElem?_eq_getElem hi] using q
  obtain ⟨g0a, g1⟩ := and_e g0
  obtain ⟨g1a, g2⟩ := and_e g1
  obtain ⟨g2a, g3⟩ := and_e g2
  obtain ⟨i0, ei0⟩ := is_v g0a
  obtain rfl : w0 = (.int i0) := Option.some.inj ei0
  obtain ⟨i1, ei1⟩ := is_v g1a
  obtain rfl : w1 = (.int i1) := Option.some.inj ei1
  obtain ⟨i2, ei2⟩ := is_v g2a
  obtain rfl : w2 = (.int i2) := Option.some.inj ei2
  obtain ⟨i3, ei3⟩ := is_v g3
  obtain rfl : w3 = (.int i3) := Option.some.inj ei3
  obtain ⟨hsets, hown0⟩ := atoms_of _ (rest_1_c_eq ▸ (show rest_1_c.before _ s = true from hrest))
  have S0 : Sta s s.heap "java/util/BitSet" "$assertionsDisabled" "Z" (.int 1) := own_sta (hsets _ (List.mem_of_getElem? (i := 2) rfl)) (Or.inl (hsets _ (List.mem_of_getElem? (i := 1) rfl)))
  have R0 : Rep s #[(.int i0), (.int i1), (.int i2), (.int i3)] s.heap.size s.heap GB [] := ⟨alS S0 al0, al0, List.nodup_nil⟩
  obtain ⟨n, o, h1, h2, h3, v, L, rfl, ⟨hv, N⟩, hq⟩ := (k0 l s s.heap.size _ hw s.heap (Nat.le_refl _) i0 i1 i2 i3 R0) tables_1 p e ha hc hk s m _ below hf ((Spec.applies_iff_loose hf).mp happ).1 ⟨rfl, State.Warmed39.refl s, rfl⟩ trivial
  subst hv
  refine ⟨n, _, h1, h2, h3, hpost _ _ _ _ _ _ ⟨Cond.after_iff.mpr rfl, Cond.after_iff.mpr (eq_i res_at (Term.int_eval (1)) rfl), trivial⟩ ⟨hq.1, hq.2.1, (hq.2.2.sift fun y hy => Or.inr (N y hy)).mono (by decide) (by decide)⟩⟩
theorem main_1_1 : Claimed_1_1 := comes_1 fun _ _ _ _ _ _ h hF => ⟨h.1, hF⟩
theorem main_1_2 : Claimed_1_2 := comes_1 fun _ _ _ _ _ _ h hF => ⟨h.2.1, hF⟩
end Jvm.Pilot.@@N@@
namespace Jvm.Pilot.@@N@@
open Jvm Jvm.ClassFile Sem Op Lib Jvm.Free Jvm.Stand Jvm.Pilot.@@N@@.Jvm.D
/-! MADE BY PROGRAM (witnessworld.py) out of the Statement's table words and the real class files: 15 classes; the members and pool entries that the words name. The judged class is class 1, her method 1. -/
namespace start1
open Jvm.ClassFile
def u (s : String) : CpInfo := .utf8 (stringToUtf16 s)
/-- a pool by its gaps: so many unusable entries, then the entry; so many at the end -/
def gap : Nat → List CpInfo → List CpInfo
  | 0, r => r
  | n + 1, r => .unusable :: gap n r
def poolList (es : List (Nat × CpInfo)) (last : Nat) : List CpInfo := es.foldr (fun e r => gap e.1 (e.2 :: r)) (gap last [])
def pool (es : List (Nat × CpInfo)) (last : Nat) : Array CpInfo := ⟨poolList es last⟩
def fileOf (pool : Array CpInfo) (this : Nat) (attrs : Array Attribute := #[]) (ms : Array MethodInfo := #[]) (fl : Nat := 33) (sup : Nat := 0) (ifs : Array Nat := #[]) (fds : Array FieldInfo := #[]) : ClassFile where
  minorVersion := 0
  majorVersion := 65
  constantPool := pool
  accessFlags := fl
  thisClass := this
  superClass := sup
  interfaces := ifs
  fields := fds
  methods := ms
  attributes := attrs
def plain (name : String) (sup : Option ClassId) : Class where
  name := name
  kind := .ordinary
  loader := none
  accessFlags := 33
  super := sup
  interfaces := #[]
  cf := none
  fields := #[]
  methods := #[]
  instanceTypes := #[]
  staticTypes := #[]
  resolved := #[]
  callSites := []
  init := .initialized
  statics := none
  mirror := none

def pool0 : Array CpInfo := pool [(5, u "<init>"), (0, u "()V"), (1, .class_ 10), (1, u "java/lang/Object")] 113

def k0c0 : Code := { maxStack := 0, maxLocals := 1, code := object_method_1_code, exceptionTable := #[], attributes := #[] }
def k0m0 : Method := { name := "<init>", desc := "()V", sig := { parameters := [], returnType := none }, accessFlags := 1, code := some k0c0 }
/-- java/lang/Object -/
def k0 : Class := { plain "java/lang/Object" none with
  accessFlags := 33
  interfaces := #[]
  cf := some (fileOf pool0 8 #[] #[{ accessFlags := 1, nameIndex := 5, descriptorIndex := 6, attributes := #[] }] 33 0 #[] #[])
  fields := #[]
  methods := #[k0m0]
  instanceTypes := #[]
  staticTypes := #[]
  resolved := Array.replicate 124 none
  statics := none }

def pool1 : Array CpInfo := pool [(2, .class_ 4), (1, u "java/lang/Object"), (0, u "<init>"), (0, u "()V"), (0, .class_ 8), (0, u "com/example/stillpoint/stillpoint/spec/CallGroups"), (0, .methodref 7 10), (0, .nameAndType 5 11), (0, u "([II[I)V"), (0, .methodref 7 13), (0, .nameAndType 14 15), (0, u "place"), (0, u "(I)V"), (0, .methodref 7 17), (0, .nameAndType 18 19), (0, u "callAfter"), (0, u "(III)I"), (0, .methodref 21 22), (0, .class_ 23), (0, .nameAndType 24 25), (0, u "com/example/stillpoint/stillpoint/spec/CallGroupsCallAfterPinLaw"), (0, u "ref"), (0, u "([IIII)I"), (2, u "law"), (0, u "(IIII)Z")] 5

def k1m0 : Method := { name := "<init>", desc := "()V", sig := { parameters := [], returnType := none }, accessFlags := 1, code := none }
def k1c1 : Code := { maxStack := 5, maxLocals := 9, code := code, exceptionTable := #[], attributes := #[] }
def k1m1 : Method := { name := "law", desc := "(IIII)Z", sig := { parameters := [.int, .int, .int, .int], returnType := some .boolean }, accessFlags := 9, code := some k1c1 }
def k1c2 : Code := { maxStack := 3, maxLocals := 5, code := method_3_code, exceptionTable := #[], attributes := #[] }
def k1m2 : Method := { name := "ref", desc := "([IIII)I", sig := { parameters := [(.array .int), .int, .int, .int], returnType := some .int }, accessFlags := 10, code := some k1c2 }
/-- com/example/stillpoint/stillpoint/spec/CallGroupsCallAfterPinLaw -/
def k1 : Class := { plain "com/example/stillpoint/stillpoint/spec/CallGroupsCallAfterPinLaw" (some 0) with
  accessFlags := 49
  interfaces := #[]
  cf := some (fileOf pool1 21 #[] #[{ accessFlags := 1, nameIndex := 5, descriptorIndex := 6, attributes := #[] }, { accessFlags := 9, nameIndex := 28, descriptorIndex := 29, attributes := #[] }, { accessFlags := 10, nameIndex := 24, descriptorIndex := 25, attributes := #[] }] 49 2 #[] #[])
  fields := #[]
  methods := #[k1m0, k1m1, k1m2]
  instanceTypes := #[]
  staticTypes := #[]
  resolved := Array.replicate 35 none
  statics := none }

def pool2 : Array CpInfo := pool [(4, .class_ 6), (1, u "com/example/stillpoint/stillpoint/spec/CallGroups"), (0, u "<init>"), (0, u "([II[I)V"), (0, .methodref 10 11), (0, .class_ 12), (0, .nameAndType 7 13), (0, u "java/lang/Object"), (0, u "()V"), (0, .class_ 15), (0, u "java/util/BitSet"), (0, .methodref 14 11), (0, .fieldref 4 18), (0, .nameAndType 19 20), (0, u "unplaced"), (0, u "Ljava/util/BitSet;"), (0, .fieldref 4 22), (0, .nameAndType 23 24), (0, u "start"), (0, u "[I"), (0, .fieldref 4 26), (0, .nameAndType 27 24), (0, u "byGroup"), (0, .fieldref 4 29), (0, .nameAndType 30 24), (0, u "placeOf"), (0, .methodref 32 33), (0, .class_ 34), (0, .nameAndType 35 36), (0, u "java/util/Arrays"), (0, u "copyOf"), (0, u "([II)[I"), (0, .methodref 14 38), (0, .nameAndType 39 40), (0, u "set"), (0, u "(II)V"), (0, .fieldref 4 42), (0, .nameAndType 43 24), (0, u "weight"), (0, .methodref 14 45), (0, .nameAndType 46 47), (0, u "clear"), (0, u "(I)V"), (0, .methodref 4 49), (0, .nameAndType 50 47), (0, u "mend"), (2, .fieldref 4 54), (0, .nameAndType 55 24), (0, u "greatestUnder"), (3, .fieldref 4 60), (0, .nameAndType 61 62), (0, u "leaves"), (0, u "I"), (3, .fieldref 4 67), (0, .nameAndType 68 24), (0, u "unplacedUnder"), (0, .fieldref 4 70), (0, .nameAndType 71 24), (0, u "sortedPlaceOf"), (34, u "sortedWeights"), (2, u "heaviestBefore"), (35, u "(III)I"), (0, u "TOO_FEW"), (5, u "place"), (6, u "callAfter"), (7, .class_ 168), (0, u "com/example/stillpoint/stillpoint/spec/CallGroups$Lightest")] 2

def k2c0 : Code := { maxStack := 7, maxLocals := 8, code := prog_81_method_2_code, exceptionTable := #[], attributes := #[] }
def k2m0 : Method := { name := "<init>", desc := "([II[I)V", sig := { parameters := [(.array .int), .int, (.array .int)], returnType := none }, accessFlags := 0, code := some k2c0 }
def k2c1 : Code := { maxStack := 3, maxLocals := 2, code := prog_81_method_3_code, exceptionTable := #[], attributes := #[] }
def k2m1 : Method := { name := "place", desc := "(I)V", sig := { parameters := [.int], returnType := none }, accessFlags := 0, code := some k2c1 }
def k2c2 : Code := { maxStack := 2, maxLocals := 4, code := prog_81_method_5_code, exceptionTable := #[], attributes := #[] }
def k2m2 : Method := { name := "mend", desc := "(I)V", sig := { parameters := [.int], returnType := none }, accessFlags := 2, code := some k2c2 }
def k2c3 : Code := { maxStack := 4, maxLocals := 5, code := prog_81_method_18_code, exceptionTable := #[], attributes := #[] }
def k2m3 : Method := { name := "callAfter", desc := "(III)I", sig := { parameters := [.int, .int, .int], returnType := some .int }, accessFlags := 0, code := some k2c3 }
/-- com/example/stillpoint/stillpoint/spec/CallGroups -/
def k2 : Class := { plain "com/example/stillpoint/stillpoint/spec/CallGroups" (some 0) with
  accessFlags := 48
  interfaces := #[]
  cf := some (fileOf pool2 4 #[.nestMembers #[167]] #[{ accessFlags := 0, nameIndex := 7, descriptorIndex := 8, attributes := #[] }, { accessFlags := 0, nameIndex := 152, descriptorIndex := 47, attributes := #[] }, { accessFlags := 2, nameIndex := 50, descriptorIndex := 47, attributes := #[] }, { accessFlags := 0, nameIndex := 159, descriptorIndex := 145, attributes := #[] }] 48 10 #[] #[{ accessFlags := 24, nameIndex := 146, descriptorIndex := 62, attributes := #[] }, { accessFlags := 18, nameIndex := 27, descriptorIndex := 24, attributes := #[] }, { accessFlags := 18, nameIndex := 23, descriptorIndex := 24, attributes := #[] }, { accessFlags := 18, nameIndex := 30, descriptorIndex := 24, attributes := #[] }, { accessFlags := 18, nameIndex := 19, descriptorIndex := 20, attributes := #[] }, { accessFlags := 18, nameIndex := 43, descriptorIndex := 24, attributes := #[] }, { accessFlags := 2, nameIndex := 61, descriptorIndex := 62, attributes := #[] }, { accessFlags := 2, nameIndex := 55, descriptorIndex := 24, attributes := #[] }, { accessFlags := 2, nameIndex := 106, descriptorIndex := 24, attributes := #[] }, { accessFlags := 2, nameIndex := 71, descriptorIndex := 24, attributes := #[] }, { accessFlags := 2, nameIndex := 109, descriptorIndex := 24, attributes := #[] }, { accessFlags := 2, nameIndex := 68, descriptorIndex := 24, attributes := #[] }])
  fields := #[{ name := "TOO_FEW", type := .int, accessFlags := 24, slot := 0, constantValue := 0 }, { name := "byGroup", type := (.array .int), accessFlags := 18, slot := 0, constantValue := 0 }, { name := "start", type := (.array .int), accessFlags := 18, slot := 1, constantValue := 0 }, { name := "placeOf", type := (.array .int), accessFlags := 18, slot := 2, constantValue := 0 }, { name := "unplaced", type := (.object "java/util/BitSet"), accessFlags := 18, slot := 3, constantValue := 0 }, { name := "weight", type := (.array .int), accessFlags := 18, slot := 4, constantValue := 0 }, { name := "leaves", type := .int, accessFlags := 2, slot := 5, constantValue := 0 }, { name := "greatestUnder", type := (.array .int), accessFlags := 2, slot := 6, constantValue := 0 }, { name := "sortedWeights", type := (.array .int), accessFlags := 2, slot := 7, constantValue := 0 }, { name := "sortedPlaceOf", type := (.array .int), accessFlags := 2, slot := 8, constantValue := 0 }, { name := "heaviestBefore", type := (.array .int), accessFlags := 2, slot := 9, constantValue := 0 }, { name := "unplacedUnder", type := (.array .int), accessFlags := 2, slot := 10, constantValue := 0 }]
  methods := #[k2m0, k2m1, k2m2, k2m3]
  instanceTypes := #[(.array .int), (.array .int), (.array .int), (.object "java/util/BitSet"), (.array .int), .int, (.array .int), (.array .int), (.array .int), (.array .int), (.array .int)]
  staticTypes := #[.int]
  resolved := Array.replicate 171 none
  statics := none }

def pool3 : Array CpInfo := pool [(1, .class_ 2), (0, u "java/lang/Cloneable"), (0, .class_ 4), (0, u "java/lang/Object")] 2

/-- java/lang/Cloneable -/
def k3 : Class := { plain "java/lang/Cloneable" (some 0) with
  accessFlags := 1537
  interfaces := #[]
  cf := some (fileOf pool3 1 #[] #[] 1537 3 #[] #[])
  fields := #[]
  methods := #[]
  instanceTypes := #[]
  staticTypes := #[]
  resolved := Array.replicate 7 none
  statics := none }

def pool4 : Array CpInfo := pool [(1, .class_ 2), (0, u "java/io/Serializable"), (0, .class_ 4), (0, u "java/lang/Object")] 2

/-- java/io/Serializable -/
def k4 : Class := { plain "java/io/Serializable" (some 0) with
  accessFlags := 1537
  interfaces := #[]
  cf := some (fileOf pool4 1 #[] #[] 1537 3 #[] #[])
  fields := #[]
  methods := #[]
  instanceTypes := #[]
  staticTypes := #[]
  resolved := Array.replicate 7 none
  statics := none }

def pool5 : Array CpInfo := pool [(1, .class_ 2), (0, u "java/util/BitSet"), (0, .fieldref 1 4), (0, .nameAndType 5 6), (0, u "$assertionsDisabled"), (0, u "Z"), (0, .fieldref 1 8), (0, .nameAndType 9 10), (0, u "wordsInUse"), (0, u "I"), (0, .fieldref 1 12), (0, .nameAndType 13 14), (0, u "words"), (0, u "[J"), (3, .nameAndType 19 20), (0, u "<init>"), (0, u "()V"), (0, .methodref 22 18), (0, .class_ 23), (0, u "java/lang/Object"), (0, .fieldref 1 25), (0, .nameAndType 26 6), (0, u "sizeIsSticky"), (0, .methodref 1 28), (0, .nameAndType 29 30), (0, u "initWords"), (0, u "(I)V"), (21, .methodref 1 53), (0, .nameAndType 54 55), (0, u "wordIndex"), (0, u "(I)I"), (0, .methodref 1 57), (0, .nameAndType 58 20), (0, u "checkInvariants"), (80, .methodref 1 140), (0, .nameAndType 141 30), (0, u "ensureCapacity"), (13, .methodref 1 156), (0, .nameAndType 157 30), (0, u "expandTo"), (0, .methodref 1 159), (0, .nameAndType 160 20), (0, u "recalculateWordsInUse"), (0, .methodref 1 162), (0, .nameAndType 163 164), (0, u "checkRange"), (0, u "(II)V"), (0, .long 18446744073709551615), (3, u "set"), (2, u "clear"), (96, .class_ 270), (0, u "java/util/BitSet$1BitSetSpliterator"), (22, u "serialPersistentFields"), (0, u "[Ljava/io/ObjectStreamField;"), (0, .class_ 296), (0, u "java/lang/Cloneable"), (0, .class_ 298), (0, u "java/io/Serializable"), (0, u "ADDRESS_BITS_PER_WORD"), (2, u "BITS_PER_WORD"), (1, u "BIT_INDEX_MASK"), (1, u "WORD_MASK"), (0, u "J"), (0, u "serialVersionUID")] 108

def k5c0 : Code := { maxStack := 2, maxLocals := 1, code := jdk_92_method_1_code, exceptionTable := #[], attributes := #[] }
def k5m0 : Method := { name := "wordIndex", desc := "(I)I", sig := { parameters := [.int], returnType := some .int }, accessFlags := 10, code := some k5c0 }
def k5c1 : Code := { maxStack := 4, maxLocals := 1, code := jdk_92_method_2_code, exceptionTable := #[], attributes := #[] }
def k5m1 : Method := { name := "checkInvariants", desc := "()V", sig := { parameters := [], returnType := none }, accessFlags := 2, code := some k5c1 }
def k5c2 : Code := { maxStack := 4, maxLocals := 2, code := jdk_92_method_3_code, exceptionTable := #[], attributes := #[] }
def k5m2 : Method := { name := "recalculateWordsInUse", desc := "()V", sig := { parameters := [], returnType := none }, accessFlags := 2, code := some k5c2 }
def k5c3 : Code := { maxStack := 2, maxLocals := 1, code := jdk_92_method_4_code, exceptionTable := #[], attributes := #[] }
def k5m3 : Method := { name := "<init>", desc := "()V", sig := { parameters := [], returnType := none }, accessFlags := 1, code := some k5c3 }
def k5c4 : Code := { maxStack := 3, maxLocals := 2, code := jdk_92_method_6_code, exceptionTable := #[], attributes := #[] }
def k5m4 : Method := { name := "initWords", desc := "(I)V", sig := { parameters := [.int], returnType := none }, accessFlags := 2, code := some k5c4 }
def k5c5 : Code := { maxStack := 3, maxLocals := 3, code := jdk_92_method_14_code, exceptionTable := #[], attributes := #[] }
def k5m5 : Method := { name := "ensureCapacity", desc := "(I)V", sig := { parameters := [.int], returnType := none }, accessFlags := 2, code := some k5c5 }
def k5c6 : Code := { maxStack := 2, maxLocals := 3, code := jdk_92_method_15_code, exceptionTable := #[], attributes := #[] }
def k5m6 : Method := { name := "expandTo", desc := "(I)V", sig := { parameters := [.int], returnType := none }, accessFlags := 2, code := some k5c6 }
def k5c7 : Code := { maxStack := 4, maxLocals := 2, code := jdk_92_method_16_code, exceptionTable := #[], attributes := #[] }
def k5m7 : Method := { name := "checkRange", desc := "(II)V", sig := { parameters := [.int, .int], returnType := none }, accessFlags := 10, code := some k5c7 }
def k5c8 : Code := { maxStack := 8, maxLocals := 10, code := jdk_92_method_21_code, exceptionTable := #[], attributes := #[] }
def k5m8 : Method := { name := "set", desc := "(II)V", sig := { parameters := [.int, .int], returnType := none }, accessFlags := 1, code := some k5c8 }
def k5c9 : Code := { maxStack := 8, maxLocals := 3, code := jdk_92_method_23_code, exceptionTable := #[], attributes := #[] }
def k5m9 : Method := { name := "clear", desc := "(I)V", sig := { parameters := [.int], returnType := none }, accessFlags := 1, code := some k5c9 }
/-- java/util/BitSet -/
def k5 : Class := { plain "java/util/BitSet" (some 0) with
  accessFlags := 33
  interfaces := #[3, 4]
  cf := some (fileOf pool5 1 #[.nestMembers #[269]] #[{ accessFlags := 10, nameIndex := 54, descriptorIndex := 55, attributes := #[] }, { accessFlags := 2, nameIndex := 58, descriptorIndex := 20, attributes := #[] }, { accessFlags := 2, nameIndex := 160, descriptorIndex := 20, attributes := #[] }, { accessFlags := 1, nameIndex := 19, descriptorIndex := 20, attributes := #[] }, { accessFlags := 2, nameIndex := 29, descriptorIndex := 30, attributes := #[] }, { accessFlags := 2, nameIndex := 141, descriptorIndex := 30, attributes := #[] }, { accessFlags := 2, nameIndex := 157, descriptorIndex := 30, attributes := #[] }, { accessFlags := 10, nameIndex := 163, descriptorIndex := 164, attributes := #[] }, { accessFlags := 1, nameIndex := 169, descriptorIndex := 164, attributes := #[] }, { accessFlags := 1, nameIndex := 172, descriptorIndex := 30, attributes := #[] }] 33 22 #[295, 297] #[{ accessFlags := 26, nameIndex := 299, descriptorIndex := 10, attributes := #[] }, { accessFlags := 26, nameIndex := 302, descriptorIndex := 10, attributes := #[] }, { accessFlags := 26, nameIndex := 304, descriptorIndex := 10, attributes := #[] }, { accessFlags := 26, nameIndex := 306, descriptorIndex := 307, attributes := #[] }, { accessFlags := 26, nameIndex := 293, descriptorIndex := 294, attributes := #[] }, { accessFlags := 2, nameIndex := 13, descriptorIndex := 14, attributes := #[] }, { accessFlags := 130, nameIndex := 9, descriptorIndex := 10, attributes := #[] }, { accessFlags := 130, nameIndex := 26, descriptorIndex := 6, attributes := #[] }, { accessFlags := 26, nameIndex := 308, descriptorIndex := 307, attributes := #[] }, { accessFlags := 4120, nameIndex := 5, descriptorIndex := 6, attributes := #[] }])
  fields := #[{ name := "ADDRESS_BITS_PER_WORD", type := .int, accessFlags := 26, slot := 0, constantValue := 0 }, { name := "BITS_PER_WORD", type := .int, accessFlags := 26, slot := 1, constantValue := 0 }, { name := "BIT_INDEX_MASK", type := .int, accessFlags := 26, slot := 2, constantValue := 0 }, { name := "WORD_MASK", type := .long, accessFlags := 26, slot := 3, constantValue := 0 }, { name := "serialPersistentFields", type := (.array (.object "java/io/ObjectStreamField")), accessFlags := 26, slot := 4, constantValue := 0 }, { name := "words", type := (.array .long), accessFlags := 2, slot := 0, constantValue := 0 }, { name := "wordsInUse", type := .int, accessFlags := 130, slot := 1, constantValue := 0 }, { name := "sizeIsSticky", type := .boolean, accessFlags := 130, slot := 2, constantValue := 0 }, { name := "serialVersionUID", type := .long, accessFlags := 26, slot := 5, constantValue := 0 }, { name := "$assertionsDisabled", type := .boolean, accessFlags := 4120, slot := 6, constantValue := 0 }]
  methods := #[k5m0, k5m1, k5m2, k5m3, k5m4, k5m5, k5m6, k5m7, k5m8, k5m9]
  instanceTypes := #[(.array .long), .int, .boolean]
  staticTypes := #[.int, .int, .int, .long, (.array (.object "java/io/ObjectStreamField")), .long, .boolean]
  resolved := Array.replicate 417 none
  statics := some 0 }

def pool6 : Array CpInfo := pool [(2, .class_ 4), (1, u "java/lang/Object"), (0, u "<init>"), (0, u "()V"), (7, .class_ 16), (1, u "java/util/Arrays"), (57, .class_ 76), (1, u "java/util/Arrays$NaturalOrder"), (36, .class_ 115), (1, u "java/util/Arrays$LegacyMergeSort"), (1, u "Z"), (32, .methodref 151 152), (0, .class_ 153), (0, .nameAndType 154 155), (0, u "java/lang/System"), (0, u "arraycopy"), (0, u "(Ljava/lang/Object;ILjava/lang/Object;II)V"), (146, u "copyOf"), (1, .methodref 305 306), (0, .class_ 307), (0, .nameAndType 308 309), (0, u "java/lang/Math"), (0, u "min"), (0, u "(II)I"), (65, .class_ 376), (0, u "java/util/Arrays$ArrayList"), (68, u "$assertionsDisabled"), (269, u "MIN_ARRAY_SORT_GRAN"), (0, u "I"), (2, u "INSERTIONSORT_THRESHOLD"), (151, u "([II)[I"), (103, .class_ 976), (0, u "java/util/Arrays$ArrayItr")] 52

def k6m0 : Method := { name := "<init>", desc := "()V", sig := { parameters := [], returnType := none }, accessFlags := 2, code := none }
def k6c1 : Code := { maxStack := 6, maxLocals := 3, code := jdk_65_method_123_code, exceptionTable := #[], attributes := #[] }
def k6m1 : Method := { name := "copyOf", desc := "([II)[I", sig := { parameters := [(.array .int), .int], returnType := some (.array .int) }, accessFlags := 9, code := some k6c1 }
/-- java/util/Arrays -/
def k6 : Class := { plain "java/util/Arrays" (some 0) with
  accessFlags := 49
  interfaces := #[]
  cf := some (fileOf pool6 14 #[.nestMembers #[975, 375, 113, 74]] #[{ accessFlags := 2, nameIndex := 5, descriptorIndex := 6, attributes := #[] }, { accessFlags := 9, nameIndex := 302, descriptorIndex := 871, attributes := #[] }] 49 2 #[] #[{ accessFlags := 26, nameIndex := 715, descriptorIndex := 716, attributes := #[] }, { accessFlags := 26, nameIndex := 719, descriptorIndex := 716, attributes := #[] }, { accessFlags := 4120, nameIndex := 445, descriptorIndex := 117, attributes := #[] }])
  fields := #[{ name := "MIN_ARRAY_SORT_GRAN", type := .int, accessFlags := 26, slot := 0, constantValue := 0 }, { name := "INSERTIONSORT_THRESHOLD", type := .int, accessFlags := 26, slot := 1, constantValue := 0 }, { name := "$assertionsDisabled", type := .boolean, accessFlags := 4120, slot := 2, constantValue := 0 }]
  methods := #[k6m0, k6m1]
  instanceTypes := #[]
  staticTypes := #[.int, .int, .boolean]
  resolved := Array.replicate 1029 none
  statics := none }

def pool7 : Array CpInfo := pool [(1, .class_ 2), (0, u "java/lang/Math"), (1, .class_ 6), (1, u "java/lang/Object"), (0, u "<init>"), (0, u "()V"), (89, .class_ 100), (1, u "java/lang/Math$RandomNumberGeneratorHolder"), (71, u "negativeZeroFloatBits"), (0, u "J"), (2, u "negativeZeroDoubleBits"), (24, u "min"), (43, u "$assertionsDisabled"), (0, u "Z"), (88, u "(II)I"), (2, u "twoToTheDoubleScaleDown"), (0, u "D"), (4, u "twoToTheDoubleScaleUp"), (9, u "E"), (3, u "PI"), (2, u "TAU"), (2, u "DEGREES_TO_RADIANS"), (0, u "RADIANS_TO_DEGREES")] 94

def k7m0 : Method := { name := "<init>", desc := "()V", sig := { parameters := [], returnType := none }, accessFlags := 2, code := none }
def k7c1 : Code := { maxStack := 2, maxLocals := 2, code := jdk_29_method_69_code, exceptionTable := #[], attributes := #[] }
def k7m1 : Method := { name := "min", desc := "(II)I", sig := { parameters := [.int, .int], returnType := some .int }, accessFlags := 9, code := some k7c1 }
/-- java/lang/Math -/
def k7 : Class := { plain "java/lang/Math" (some 0) with
  accessFlags := 49
  interfaces := #[]
  cf := some (fileOf pool7 1 #[.nestMembers #[98]] #[{ accessFlags := 2, nameIndex := 7, descriptorIndex := 8, attributes := #[] }, { accessFlags := 9, nameIndex := 201, descriptorIndex := 335, attributes := #[] }] 49 4 #[] #[{ accessFlags := 25, nameIndex := 354, descriptorIndex := 339, attributes := #[] }, { accessFlags := 25, nameIndex := 358, descriptorIndex := 339, attributes := #[] }, { accessFlags := 25, nameIndex := 361, descriptorIndex := 339, attributes := #[] }, { accessFlags := 26, nameIndex := 364, descriptorIndex := 339, attributes := #[] }, { accessFlags := 26, nameIndex := 365, descriptorIndex := 339, attributes := #[] }, { accessFlags := 26, nameIndex := 172, descriptorIndex := 173, attributes := #[] }, { accessFlags := 26, nameIndex := 176, descriptorIndex := 173, attributes := #[] }, { accessFlags := 8, nameIndex := 344, descriptorIndex := 339, attributes := #[] }, { accessFlags := 8, nameIndex := 338, descriptorIndex := 339, attributes := #[] }, { accessFlags := 4120, nameIndex := 245, descriptorIndex := 246, attributes := #[] }])
  fields := #[{ name := "E", type := .double, accessFlags := 25, slot := 0, constantValue := 0 }, { name := "PI", type := .double, accessFlags := 25, slot := 1, constantValue := 0 }, { name := "TAU", type := .double, accessFlags := 25, slot := 2, constantValue := 0 }, { name := "DEGREES_TO_RADIANS", type := .double, accessFlags := 26, slot := 3, constantValue := 0 }, { name := "RADIANS_TO_DEGREES", type := .double, accessFlags := 26, slot := 4, constantValue := 0 }, { name := "negativeZeroFloatBits", type := .long, accessFlags := 26, slot := 5, constantValue := 0 }, { name := "negativeZeroDoubleBits", type := .long, accessFlags := 26, slot := 6, constantValue := 0 }, { name := "twoToTheDoubleScaleUp", type := .double, accessFlags := 8, slot := 7, constantValue := 0 }, { name := "twoToTheDoubleScaleDown", type := .double, accessFlags := 8, slot := 8, constantValue := 0 }, { name := "$assertionsDisabled", type := .boolean, accessFlags := 4120, slot := 9, constantValue := 0 }]
  methods := #[k7m0, k7m1]
  instanceTypes := #[]
  staticTypes := #[.double, .double, .double, .double, .double, .long, .long, .double, .double, .boolean]
  resolved := Array.replicate 460 none
  statics := none }

def pool8 : Array CpInfo := pool [(2, .class_ 4), (1, u "java/lang/Object"), (0, u "<init>"), (0, u "()V"), (1, .class_ 10), (1, u "java/lang/System"), (0, u "allowSecurityManager"), (0, u "I"), (16, u "cons"), (0, u "Ljava/io/Console;"), (77, .class_ 110), (1, u "java/lang/System$CallersHolder"), (43, u "initialErrStream"), (0, u "Ljava/io/PrintStream;"), (19, u "security"), (0, u "Ljava/lang/SecurityManager;"), (31, .class_ 209), (0, u "java/lang/System$1"), (7, u "props"), (0, u "Ljava/util/Properties;"), (2, u "lineSeparator"), (0, u "Ljava/lang/String;"), (96, .class_ 321), (1, u "java/lang/System$LoggerFinder"), (5, .class_ 328), (0, u "java/lang/System$Logger"), (67, u "err"), (2, u "out"), (91, u "notSupportedJnuEncoding"), (15, u "in"), (17, u "initialIn"), (0, u "Ljava/io/InputStream;"), (35, u "bootLayer"), (0, u "Ljava/lang/ModuleLayer;"), (99, .class_ 664), (0, u "java/lang/System$2"), (9, u "NEVER"), (2, u "MAYBE"), (49, u "arraycopy"), (0, u "(Ljava/lang/Object;ILjava/lang/Object;II)V"), (72, .class_ 802), (0, u "java/lang/System$Logger$Level")] 31

def k8m0 : Method := { name := "<init>", desc := "()V", sig := { parameters := [], returnType := none }, accessFlags := 2, code := none }
def k8m1 : Method := { name := "arraycopy", desc := "(Ljava/lang/Object;ILjava/lang/Object;II)V", sig := { parameters := [(.object "java/lang/Object"), .int, (.object "java/lang/Object"), .int, .int], returnType := none }, accessFlags := 265, code := none }
/-- java/lang/System -/
def k8 : Class := { plain "java/lang/System" (some 0) with
  accessFlags := 49
  interfaces := #[]
  cf := some (fileOf pool8 8 #[.nestMembers #[319, 327, 801, 108, 663, 208]] #[{ accessFlags := 2, nameIndex := 5, descriptorIndex := 6, attributes := #[] }, { accessFlags := 265, nameIndex := 727, descriptorIndex := 728, attributes := #[] }] 49 2 #[] #[{ accessFlags := 25, nameIndex := 507, descriptorIndex := 526, attributes := #[] }, { accessFlags := 25, nameIndex := 399, descriptorIndex := 155, attributes := #[] }, { accessFlags := 25, nameIndex := 396, descriptorIndex := 155, attributes := #[] }, { accessFlags := 10, nameIndex := 525, descriptorIndex := 526, attributes := #[] }, { accessFlags := 26, nameIndex := 674, descriptorIndex := 12, attributes := #[] }, { accessFlags := 26, nameIndex := 677, descriptorIndex := 12, attributes := #[] }, { accessFlags := 10, nameIndex := 11, descriptorIndex := 12, attributes := #[] }, { accessFlags := 74, nameIndex := 175, descriptorIndex := 176, attributes := #[] }, { accessFlags := 10, nameIndex := 491, descriptorIndex := 222, attributes := #[] }, { accessFlags := 74, nameIndex := 29, descriptorIndex := 30, attributes := #[] }, { accessFlags := 74, nameIndex := 154, descriptorIndex := 155, attributes := #[] }, { accessFlags := 10, nameIndex := 217, descriptorIndex := 218, attributes := #[] }, { accessFlags := 10, nameIndex := 221, descriptorIndex := 222, attributes := #[] }, { accessFlags := 8, nameIndex := 562, descriptorIndex := 563, attributes := #[] }])
  fields := #[{ name := "in", type := (.object "java/io/InputStream"), accessFlags := 25, slot := 0, constantValue := 0 }, { name := "out", type := (.object "java/io/PrintStream"), accessFlags := 25, slot := 1, constantValue := 0 }, { name := "err", type := (.object "java/io/PrintStream"), accessFlags := 25, slot := 2, constantValue := 0 }, { name := "initialIn", type := (.object "java/io/InputStream"), accessFlags := 10, slot := 3, constantValue := 0 }, { name := "NEVER", type := .int, accessFlags := 26, slot := 4, constantValue := 0 }, { name := "MAYBE", type := .int, accessFlags := 26, slot := 5, constantValue := 0 }, { name := "allowSecurityManager", type := .int, accessFlags := 10, slot := 6, constantValue := 0 }, { name := "security", type := (.object "java/lang/SecurityManager"), accessFlags := 74, slot := 7, constantValue := 0 }, { name := "notSupportedJnuEncoding", type := (.object "java/lang/String"), accessFlags := 10, slot := 8, constantValue := 0 }, { name := "cons", type := (.object "java/io/Console"), accessFlags := 74, slot := 9, constantValue := 0 }, { name := "initialErrStream", type := (.object "java/io/PrintStream"), accessFlags := 74, slot := 10, constantValue := 0 }, { name := "props", type := (.object "java/util/Properties"), accessFlags := 10, slot := 11, constantValue := 0 }, { name := "lineSeparator", type := (.object "java/lang/String"), accessFlags := 10, slot := 12, constantValue := 0 }, { name := "bootLayer", type := (.object "java/lang/ModuleLayer"), accessFlags := 8, slot := 13, constantValue := 0 }]
  methods := #[k8m0, k8m1]
  instanceTypes := #[]
  staticTypes := #[(.object "java/io/InputStream"), (.object "java/io/PrintStream"), (.object "java/io/PrintStream"), (.object "java/io/InputStream"), .int, .int, .int, (.object "java/lang/SecurityManager"), (.object "java/lang/String"), (.object "java/io/Console"), (.object "java/io/PrintStream"), (.object "java/util/Properties"), (.object "java/lang/String"), (.object "java/lang/ModuleLayer")]
  resolved := Array.replicate 834 none
  statics := none }

/-- the primitive byte -/
def k9 : Class := { plain "byte" none with kind := .primitive 'B', accessFlags := 0x411 }
/-- [B -/
def k10 : Class := { plain "[B" (some 0) with kind := .array 9 .byte, interfaces := #[3, 4], accessFlags := 1041 }

/-- the primitive int -/
def k11 : Class := { plain "int" none with kind := .primitive 'I', accessFlags := 0x411 }
/-- [I -/
def k12 : Class := { plain "[I" (some 0) with kind := .array 11 .int, interfaces := #[3, 4], accessFlags := 1041 }

/-- the primitive long -/
def k13 : Class := { plain "long" none with kind := .primitive 'J', accessFlags := 0x411 }
/-- [J -/
def k14 : Class := { plain "[J" (some 0) with kind := .array 13 .long, interfaces := #[3, 4], accessFlags := 1041 }

def heap : Heap := #[{ cls := 5, slots := #[.int 0, .int 0, .int 0, .long 0, .null, .long 0, .int 1], vm := .statics 5 }]
def classes : Array Class := #[k0, k1, k2, k3, k4, k5, k6, k7, k8, k9, k10, k11, k12, k13, k14]
def interned : List (Array UInt16 × Addr) := []
def slotsUsed : Nat := 7
def theMethod : MethodId := ⟨1, 1⟩
def args0 : Array Value := #[.int 27, .int 1, .int 1, .int 5]
def aboutOver (below : List Frame) : State where
  vm := { classes := classes, interned := interned.toArray }
  heap := heap
  slotsUsed := slotsUsed
  threads := #[{ frames := .invoking theMethod args0 :: below }]
def below0 : List Frame := [.native { method := ⟨0, 0⟩, args := #[] }]
def about1 : State := aboutOver below0
def p0 : Program := .bare "" "" ""
def e0 : Env := launch0.env 0 0 0
theorem w_frames : about1.frames = Frame.invoking theMethod args0 :: below0 := rfl
set_option maxRecDepth 65536 in
theorem w_args : argsFit about1.vm theMethod args0 = true := by decide +kernel
set_option maxRecDepth 65536 in
theorem w_heap : heapFits about1 = true := by decide +kernel
set_option maxRecDepth 65536 in
theorem w_runnable : about1.curStatus? = some .runnable := by decide +kernel
set_option maxRecDepth 65536 in
theorem w_alone : about1.alone = true := by decide +kernel
set_option maxRecDepth 65536 in
theorem w_named : about1.methodNamed? x = some theMethod := by decide +kernel
set_option maxRecDepth 65536 in
theorem w_hears : about1.hears theMethod below0 = true := by decide +kernel
set_option maxRecDepth 65536 in
theorem w_ripe : about1.ripe theMethod args0 below0 = true := by decide +kernel
theorem w_running : about1.status = .running := rfl
set_option maxRecDepth 65536 in
theorem w_room : about1.hasRoom e0.platform room_1 = true :=
  launch0.hasRoom_least _ room_1 (by decide +kernel) (by decide +kernel) (by decide +kernel) (by decide +kernel) (by decide +kernel) (by decide +kernel)
theorem allAtoms_all (ts : List Jvm.Cond) (a : Array Jvm.Value) (st : Jvm.State) : (allAtoms ts).before a st = ts.all (fun c => c.before a st) := by
  induction ts with
  | nil => rfl
  | cons c t ih =>
    show (Jvm.Cond.and c (allAtoms t)).before a st = _
    rw [Jvm.Cond.before_and, ih, List.all_cons]
def words1 : List Jvm.Cond := Jvm.Cond.code x code maxLocals ret :: tables_1
/-- a 'code' word, met by the world's own term for the bytes: nothing is compared byte by byte -/
theorem code_word {y : MethodName} {bytes : ByteArray} {mx : Nat} {rt : Option FieldType} {a : Array Value} {s : State} {m : MethodId} {meth : Method} {c : Code} (h1 : s.methodNamed? y = some m) (h2 : s.vm.method? m = some meth) (h3 : meth.code = some c) (h4 : c.code = bytes)
    (h5 : (c.maxLocals == mx && c.exceptionTable.isEmpty && decide (c.maxStack ≤ mostOperands) && decide (meth.sig.returnType = rt) && !meth.locks && decide (parseMethodDescriptor y.desc = some meth.sig)) = true) : (Jvm.Cond.code y bytes mx rt).before a s = true := by
  simp only [Bool.and_eq_true, beq_iff_eq, Bool.not_eq_true', decide_eq_true_eq] at h5
  obtain ⟨⟨⟨⟨⟨g1, g2⟩, g3⟩, g4⟩, g5⟩, g6⟩ := h5
  simp [Cond.before, Cond.holds, Cond.value, h1, h2, h3, h4, g1, g2, g3, g4, g5, g6]
def isCode : Jvm.Cond → Bool
  | .code _ _ _ _ => true
  | _ => false
theorem all_split {L : List Jvm.Cond} {P : Jvm.Cond → Bool} (h1 : L.all (fun c => isCode c || P c) = true) (h2 : ∀ c ∈ L.filter isCode, P c = true) : L.all P = true := by
  refine List.all_eq_true.mpr fun c hc => ?_
  have h := List.all_eq_true.mp h1 c hc
  rcases Bool.eq_false_or_eq_true (isCode c) with hi | hi
  · exact h2 c (List.mem_filter.mpr ⟨hc, hi⟩)
  · simpa [hi] using h
set_option maxRecDepth 65536 in
theorem w_c0 : (Jvm.Cond.code x code maxLocals ret).before args0 about1 = true := code_word (m := ⟨1, 1⟩) (meth := k1m1) (c := k1c1) (by decide +kernel) rfl rfl rfl (by decide +kernel)
set_option maxRecDepth 65536 in
theorem w_c1 : (Jvm.Cond.code ({ cls := "com/example/stillpoint/stillpoint/spec/CallGroups", name := "<init>", desc := "([II[I)V" } : Jvm.MethodName) prog_81_method_2_code (8 : Nat) (Option.none : Option Jvm.ClassFile.FieldType)).before args0 about1 = true := code_word (m := ⟨2, 0⟩) (meth := k2m0) (c := k2c0) (by decide +kernel) rfl rfl rfl (by decide +kernel)
set_option maxRecDepth 65536 in
theorem w_c2 : (Jvm.Cond.code ({ cls := "java/lang/Object", name := "<init>", desc := "()V" } : Jvm.MethodName) object_method_1_code (1 : Nat) (Option.none : Option Jvm.ClassFile.FieldType)).before args0 about1 = true := code_word (m := ⟨0, 0⟩) (meth := k0m0) (c := k0c0) (by decide +kernel) rfl rfl rfl (by decide +kernel)
set_option maxRecDepth 65536 in
theorem w_c3 : (Jvm.Cond.code ({ cls := "java/util/BitSet", name := "<init>", desc := "()V" } : Jvm.MethodName) jdk_92_method_4_code (1 : Nat) (Option.none : Option Jvm.ClassFile.FieldType)).before args0 about1 = true := code_word (m := ⟨5, 3⟩) (meth := k5m3) (c := k5c3) (by decide +kernel) rfl rfl rfl (by decide +kernel)
set_option maxRecDepth 65536 in
theorem w_c4 : (Jvm.Cond.code ({ cls := "java/util/BitSet", name := "initWords", desc := "(I)V" } : Jvm.MethodName) jdk_92_method_6_code (2 : Nat) (Option.none : Option Jvm.ClassFile.FieldType)).before args0 about1 = true := code_word (m := ⟨5, 4⟩) (meth := k5m4) (c := k5c4) (by decide +kernel) rfl rfl rfl (by decide +kernel)
set_option maxRecDepth 65536 in
theorem w_c5 : (Jvm.Cond.code ({ cls := "java/util/BitSet", name := "wordIndex", desc := "(I)I" } : Jvm.MethodName) jdk_92_method_1_code (1 : Nat) (Option.some Jvm.ClassFile.FieldType.int)).before args0 about1 = true := code_word (m := ⟨5, 0⟩) (meth := k5m0) (c := k5c0) (by decide +kernel) rfl rfl rfl (by decide +kernel)
set_option maxRecDepth 65536 in
theorem w_c6 : (Jvm.Cond.code ({ cls := "java/util/Arrays", name := "copyOf", desc := "([II)[I" } : Jvm.MethodName) jdk_65_method_123_code (3 : Nat) (Option.some (Jvm.ClassFile.FieldType.array Jvm.ClassFile.FieldType.int))).before args0 about1 = true := code_word (m := ⟨6, 1⟩) (meth := k6m1) (c := k6c1) (by decide +kernel) rfl rfl rfl (by decide +kernel)
set_option maxRecDepth 65536 in
theorem w_c7 : (Jvm.Cond.code ({ cls := "java/lang/Math", name := "min", desc := "(II)I" } : Jvm.MethodName) jdk_29_method_69_code (2 : Nat) (Option.some Jvm.ClassFile.FieldType.int)).before args0 about1 = true := code_word (m := ⟨7, 1⟩) (meth := k7m1) (c := k7c1) (by decide +kernel) rfl rfl rfl (by decide +kernel)
set_option maxRecDepth 65536 in
theorem w_c8 : (Jvm.Cond.code ({ cls := "java/util/BitSet", name := "set", desc := "(II)V" } : Jvm.MethodName) jdk_92_method_21_code (10 : Nat) (Option.none : Option Jvm.ClassFile.FieldType)).before args0 about1 = true := code_word (m := ⟨5, 8⟩) (meth := k5m8) (c := k5c8) (by decide +kernel) rfl rfl rfl (by decide +kernel)
set_option maxRecDepth 65536 in
theorem w_c9 : (Jvm.Cond.code ({ cls := "java/util/BitSet", name := "checkRange", desc := "(II)V" } : Jvm.MethodName) jdk_92_method_16_code (2 : Nat) (Option.none : Option Jvm.ClassFile.FieldType)).before args0 about1 = true := code_word (m := ⟨5, 7⟩) (meth := k5m7) (c := k5c7) (by decide +kernel) rfl rfl rfl (by decide +kernel)
set_option maxRecDepth 65536 in
theorem w_c10 : (Jvm.Cond.code ({ cls := "java/util/BitSet", name := "expandTo", desc := "(I)V" } : Jvm.MethodName) jdk_92_method_15_code (3 : Nat) (Option.none : Option Jvm.ClassFile.FieldType)).before args0 about1 = true := code_word (m := ⟨5, 6⟩) (meth := k5m6) (c := k5c6) (by decide +kernel) rfl rfl rfl (by decide +kernel)
set_option maxRecDepth 65536 in
theorem w_c11 : (Jvm.Cond.code ({ cls := "java/util/BitSet", name := "ensureCapacity", desc := "(I)V" } : Jvm.MethodName) jdk_92_method_14_code (3 : Nat) (Option.none : Option Jvm.ClassFile.FieldType)).before args0 about1 = true := code_word (m := ⟨5, 5⟩) (meth := k5m5) (c := k5c5) (by decide +kernel) rfl rfl rfl (by decide +kernel)
set_option maxRecDepth 65536 in
theorem w_c12 : (Jvm.Cond.code ({ cls := "java/util/BitSet", name := "checkInvariants", desc := "()V" } : Jvm.MethodName) jdk_92_method_2_code (1 : Nat) (Option.none : Option Jvm.ClassFile.FieldType)).before args0 about1 = true := code_word (m := ⟨5, 1⟩) (meth := k5m1) (c := k5c1) (by decide +kernel) rfl rfl rfl (by decide +kernel)
set_option maxRecDepth 65536 in
theorem w_c13 : (Jvm.Cond.code ({ cls := "com/example/stillpoint/stillpoint/spec/CallGroups", name := "callAfter", desc := "(III)I" } : Jvm.MethodName) prog_81_method_18_code (5 : Nat) (Option.some Jvm.ClassFile.FieldType.int)).before args0 about1 = true := code_word (m := ⟨2, 3⟩) (meth := k2m3) (c := k2c3) (by decide +kernel) rfl rfl rfl (by decide +kernel)
set_option maxRecDepth 65536 in
theorem w_c14 : (Jvm.Cond.code ({ cls := "com/example/stillpoint/stillpoint/spec/CallGroupsCallAfterPinLaw", name := "ref", desc := "([IIII)I" } : Jvm.MethodName) method_3_code (5 : Nat) (Option.some Jvm.ClassFile.FieldType.int)).before args0 about1 = true := code_word (m := ⟨1, 2⟩) (meth := k1m2) (c := k1c2) (by decide +kernel) rfl rfl rfl (by decide +kernel)
set_option maxRecDepth 65536 in
theorem w_c15 : (Jvm.Cond.code ({ cls := "com/example/stillpoint/stillpoint/spec/CallGroups", name := "place", desc := "(I)V" } : Jvm.MethodName) prog_81_method_3_code (2 : Nat) (Option.none : Option Jvm.ClassFile.FieldType)).before args0 about1 = true := code_word (m := ⟨2, 1⟩) (meth := k2m1) (c := k2c1) (by decide +kernel) rfl rfl rfl (by decide +kernel)
set_option maxRecDepth 65536 in
theorem w_c16 : (Jvm.Cond.code ({ cls := "java/util/BitSet", name := "clear", desc := "(I)V" } : Jvm.MethodName) jdk_92_method_23_code (3 : Nat) (Option.none : Option Jvm.ClassFile.FieldType)).before args0 about1 = true := code_word (m := ⟨5, 9⟩) (meth := k5m9) (c := k5c9) (by decide +kernel) rfl rfl rfl (by decide +kernel)
set_option maxRecDepth 65536 in
theorem w_c17 : (Jvm.Cond.code ({ cls := "java/util/BitSet", name := "recalculateWordsInUse", desc := "()V" } : Jvm.MethodName) jdk_92_method_3_code (2 : Nat) (Option.none : Option Jvm.ClassFile.FieldType)).before args0 about1 = true := code_word (m := ⟨5, 2⟩) (meth := k5m2) (c := k5c2) (by decide +kernel) rfl rfl rfl (by decide +kernel)
set_option maxRecDepth 65536 in
theorem w_c18 : (Jvm.Cond.code ({ cls := "com/example/stillpoint/stillpoint/spec/CallGroups", name := "mend", desc := "(I)V" } : Jvm.MethodName) prog_81_method_5_code (4 : Nat) (Option.none : Option Jvm.ClassFile.FieldType)).before args0 about1 = true := code_word (m := ⟨2, 2⟩) (meth := k2m2) (c := k2c2) (by decide +kernel) rfl rfl rfl (by decide +kernel)
def codes1 : List Jvm.Cond := [Jvm.Cond.code x code maxLocals ret, Jvm.Cond.code ({ cls := "com/example/stillpoint/stillpoint/spec/CallGroups", name := "<init>", desc := "([II[I)V" } : Jvm.MethodName) prog_81_method_2_code (8 : Nat) (Option.none : Option Jvm.ClassFile.FieldType), Jvm.Cond.code ({ cls := "java/lang/Object", name := "<init>", desc := "()V" } : Jvm.MethodName) object_method_1_code (1 : Nat) (Option.none : Option Jvm.ClassFile.FieldType), Jvm.Cond.code ({ cls := "java/util/BitSet", name := "<init>", desc := "()V" } : Jvm.MethodName) jdk_92_method_4_code (1 : Nat) (Option.none : Option Jvm.ClassFile.FieldType), Jvm.Cond.code ({ cls := "java/util/BitSet", name := "initWords", desc := "(I)V" } : Jvm.MethodName) jdk_92_method_6_code (2 : Nat) (Option.none : Option Jvm.ClassFile.FieldType), Jvm.Cond.code ({ cls := "java/util/BitSet", name := "wordIndex", desc := "(I)I" } : Jvm.MethodName) jdk_92_method_1_code (1 : Nat) (Option.some Jvm.ClassFile.FieldType.int), Jvm.Cond.code ({ cls := "java/util/Arrays", name := "copyOf", desc := "([II)[I" } : Jvm.MethodName) jdk_65_method_123_code (3 : Nat) (Option.some (Jvm.ClassFile.FieldType.array Jvm.ClassFile.FieldType.int)), Jvm.Cond.code ({ cls := "java/lang/Math", name := "min", desc := "(II)I" } : Jvm.MethodName) jdk_29_method_69_code (2 : Nat) (Option.some Jvm.ClassFile.FieldType.int), Jvm.Cond.code ({ cls := "java/util/BitSet", name := "set", desc := "(II)V" } : Jvm.MethodName) jdk_92_method_21_code (10 : Nat) (Option.none : Option Jvm.ClassFile.FieldType), Jvm.Cond.code ({ cls := "java/util/BitSet", name := "checkRange", desc := "(II)V" } : Jvm.MethodName) jdk_92_method_16_code (2 : Nat) (Option.none : Option Jvm.ClassFile.FieldType), Jvm.Cond.code ({ cls := "java/util/BitSet", name := "expandTo", desc := "(I)V" } : Jvm.MethodName) jdk_92_method_15_code (3 : Nat) (Option.none : Option Jvm.ClassFile.FieldType), Jvm.Cond.code ({ cls := "java/util/BitSet", name := "ensureCapacity", desc := "(I)V" } : Jvm.MethodName) jdk_92_method_14_code (3 : Nat) (Option.none : Option Jvm.ClassFile.FieldType), Jvm.Cond.code ({ cls := "java/util/BitSet", name := "checkInvariants", desc := "()V" } : Jvm.MethodName) jdk_92_method_2_code (1 : Nat) (Option.none : Option Jvm.ClassFile.FieldType), Jvm.Cond.code ({ cls := "com/example/stillpoint/stillpoint/spec/CallGroups", name := "callAfter", desc := "(III)I" } : Jvm.MethodName) prog_81_method_18_code (5 : Nat) (Option.some Jvm.ClassFile.FieldType.int), Jvm.Cond.code ({ cls := "com/example/stillpoint/stillpoint/spec/CallGroupsCallAfterPinLaw", name := "ref", desc := "([IIII)I" } : Jvm.MethodName) method_3_code (5 : Nat) (Option.some Jvm.ClassFile.FieldType.int), Jvm.Cond.code ({ cls := "com/example/stillpoint/stillpoint/spec/CallGroups", name := "place", desc := "(I)V" } : Jvm.MethodName) prog_81_method_3_code (2 : Nat) (Option.none : Option Jvm.ClassFile.FieldType), Jvm.Cond.code ({ cls := "java/util/BitSet", name := "clear", desc := "(I)V" } : Jvm.MethodName) jdk_92_method_23_code (3 : Nat) (Option.none : Option Jvm.ClassFile.FieldType), Jvm.Cond.code ({ cls := "java/util/BitSet", name := "recalculateWordsInUse", desc := "()V" } : Jvm.MethodName) jdk_92_method_3_code (2 : Nat) (Option.none : Option Jvm.ClassFile.FieldType), Jvm.Cond.code ({ cls := "com/example/stillpoint/stillpoint/spec/CallGroups", name := "mend", desc := "(I)V" } : Jvm.MethodName) prog_81_method_5_code (4 : Nat) (Option.none : Option Jvm.ClassFile.FieldType)]
set_option maxRecDepth 65536 in
theorem codes_eq : words1.filter isCode = codes1 := rfl
theorem w_codes : ∀ c ∈ words1.filter isCode, c.before args0 about1 = true := by
  rw [codes_eq]
  intro c hc
  simp only [codes1, List.mem_cons, List.not_mem_nil, or_false] at hc
  rcases hc with rfl | rfl | rfl | rfl | rfl | rfl | rfl | rfl | rfl | rfl | rfl | rfl | rfl | rfl | rfl | rfl | rfl | rfl | rfl
  · exact w_c0
  · exact w_c1
  · exact w_c2
  · exact w_c3
  · exact w_c4
  · exact w_c5
  · exact w_c6
  · exact w_c7
  · exact w_c8
  · exact w_c9
  · exact w_c10
  · exact w_c11
  · exact w_c12
  · exact w_c13
  · exact w_c14
  · exact w_c15
  · exact w_c16
  · exact w_c17
  · exact w_c18
set_option maxRecDepth 65536 in
theorem w_t1 : (words1.take 24).all (fun c => isCode c || c.before args0 about1) = true := by decide +kernel
set_option maxRecDepth 65536 in
theorem w_t2 : ((words1.drop 24).take 24).all (fun c => isCode c || c.before args0 about1) = true := by decide +kernel
set_option maxRecDepth 65536 in
theorem w_t3 : (((words1.drop 24).drop 24).take 24).all (fun c => isCode c || c.before args0 about1) = true := by decide +kernel
set_option maxRecDepth 65536 in
theorem w_t4 : ((((words1.drop 24).drop 24).drop 24).take 24).all (fun c => isCode c || c.before args0 about1) = true := by decide +kernel
set_option maxRecDepth 65536 in
theorem w_t5 : ((((words1.drop 24).drop 24).drop 24).drop 24).all (fun c => isCode c || c.before args0 about1) = true := by decide +kernel
theorem w_tables : (allAtoms (Jvm.Cond.code x code maxLocals ret :: tables_1)).before args0 about1 = true := by
  rw [allAtoms_all]
  show words1.all (fun c => c.before args0 about1) = true
  refine all_split ?_ w_codes
  rw [← List.take_append_drop 24 words1, List.all_append, w_t1, ← List.take_append_drop 24 (words1.drop 24), List.all_append, w_t2, ← List.take_append_drop 24 ((words1.drop 24).drop 24), List.all_append, w_t3, ← List.take_append_drop 24 (((words1.drop 24).drop 24).drop 24), List.all_append, w_t4, w_t5]
  rfl
set_option maxRecDepth 65536 in
theorem w_rest : rest_1_c.before args0 about1 = true := by decide +kernel
set_option maxRecDepth 65536 in
theorem w_case : (Jvm.Cond.and given_1 narrow_1).before args0 about1 = true := by decide +kernel
theorem w_applies : (headSpec (Jvm.Cond.code x code maxLocals ret :: tables_1) room_1).applies x e0.platform about1 = true :=
  (Spec.applies_iff w_frames).mpr ⟨w_running, w_runnable, w_alone, w_named, w_hears, w_ripe, w_room, w_tables⟩
theorem atStart : AtStart classFile x code maxLocals ret World_1 tables_1 room_1 Calls_1 rest_1 Pre_1 launch0 p0 e0 about1 theMethod args0 below0 :=
  ⟨lists_1, trivial, launch0.admits_env _ _ _, launch0.least_env, fairChoices_fair.cas, fairChoices_fair.clock, w_frames, w_args, w_heap, w_applies, trivial, w_rest, w_case⟩
end start1
theorem witness_1 : WitnessClaimed_1 := ⟨start1.p0, start1.e0, start1.about1, start1.theMethod, start1.args0, start1.below0, start1.atStart⟩
end Jvm.Pilot.@@N@@
