import JvmDerived
import JvmDerived.Pilot.@@N@@Statement
import JvmDerived.Pilot.@@N@@Code
set_option linter.unusedVariables false
set_option linter.unusedSimpArgs false
namespace Jvm.WK
open Sem ClassFile Op Lib Jvm.Stand Jvm.Free Jvm.LawKit Jvm.RoadKit Bundle
/-! WK: a walk in continuation form over RoadKit's laws: 'Go' (from this frame the invocation ends well), 'W' (where the walk stands; it may have interned), one law a step. -/
abbrev Cx : Type := Program × Env × State × MethodId × Array Value × List Frame × Method × Code
abbrev Cx.p (κ : Cx) : Program := κ.1
abbrev Cx.e (κ : Cx) : Env := κ.2.1
abbrev Cx.s (κ : Cx) : State := κ.2.2.1
abbrev Cx.m (κ : Cx) : MethodId := κ.2.2.2.1
abbrev Cx.a (κ : Cx) : Array Value := κ.2.2.2.2.1
abbrev Cx.b (κ : Cx) : List Frame := κ.2.2.2.2.2.1
abbrev Cx.M (κ : Cx) : Method := κ.2.2.2.2.2.2.1
abbrev Cx.c (κ : Cx) : Code := κ.2.2.2.2.2.2.2
def Fx (κ : Cx) (G : Option Value → State → Prop) (A : State) : Prop :=
  ∃ (v : Option Value) (B : State), Steps κ.p.tables κ.e κ.b A B ∧ B.status = .running ∧ Ended B κ.b (.returned v) ∧ G v B
abbrev Go (κ : Cx) (G : Option Value → State → Prop) (T : State) (pc : Nat) (Ls : Array Slot) (st : List Value) : Prop := Fx κ G (T.setTop (mkF κ.m pc Ls st))
section Base
variable {κ : Cx} {G : Option Value → State → Prop} {T : State}
theorem Fx.via {A A' : State} (k : ∀ t, Steps κ.p.tables κ.e κ.b A' t → Steps κ.p.tables κ.e κ.b A t) (f : Fx κ G A') : Fx κ G A := by
  obtain ⟨v, B, h1, h2⟩ := f; exact ⟨v, B, k _ h1, h2⟩
theorem Fx.after {A A' : State} (k : Steps κ.p.tables κ.e κ.b A A') (f : Fx κ G A') : Fx κ G A := by
  obtain ⟨v, B, h1, h2⟩ := f; exact ⟨v, B, k.trans h1, h2⟩
def Dec (κ : Cx) (D : List (Nat × Instr × Nat)) : Prop := ∀ q ∈ D, decode κ.c.code q.1 = .ok q.2
theorem Dec.g {D : List (Nat × Instr × Nat)} (d : Dec κ D) (i : Nat) {pc : Nat} {ins : Instr} {len : Nat} (h : D[i]? = some (pc, ins, len)) : decode κ.c.code pc = .ok (ins, len) := d (pc, ins, len) (List.mem_of_getElem? h)
theorem Dec.of {D : List (Nat × Instr × Nat)} {code : ByteArray} (hc : κ.c.code = code) (h : ∀ q ∈ D, decode code q.1 = .ok q.2) : Dec κ D := fun q hq => by rw [hc]; exact h q hq
theorem Go.top {pc : Nat} {Ls : Array Slot} {st : List Value} {x y : Int32} (e : x = y) (g : Go κ G T pc Ls (.int y :: st)) : Go κ G T pc Ls (.int x :: st) := by subst e; exact g
/-- it stands, and the tables execute as they should -/
def Ok (κ : Cx) (T : State) : Prop := At T κ.m κ.c κ.b ∧ κ.p.tables.exec = Jvm.exec
abbrev St : Type := Nat × Array Slot × List Value
def Snd (κ : Cx) (T : State) (f : St → Option St) : Prop := ∀ (a b : St) (G : Option Value → State → Prop), f a = some b → Go κ G T b.1 b.2.1 b.2.2 → Go κ G T a.1 a.2.1 a.2.2
def Opn (κ : Cx) (T : State) : Type := { f : St → Option St // Snd κ T f }
def run : List (Opn κ T) → St → Option St
  | [], a => some a
  | o :: os, a => match o.1 a with | some b => run os b | none => none
theorem run_ok : ∀ (os : List (Opn κ T)) (a b : St), run os a = some b → Go κ G T b.1 b.2.1 b.2.2 → Go κ G T a.1 a.2.1 a.2.2
  | [], a, b, h, g => by cases h; exact g
  | o :: os, a, b, h, g => by
    unfold run at h
    split at h
    · rename_i b' hb
      exact o.2 a b' G hb (run_ok os b' b h g)
    · cases h
theorem blk (os : List (Opn κ T)) {pc pc' : Nat} {Ls Ls' : Array Slot} {st st' : List Value} (h : run os (pc, Ls, st) = some (pc', Ls', st')) (g : Go κ G T pc' Ls' st') : Go κ G T pc Ls st := run_ok os (pc, Ls, st) (pc', Ls', st') h g
def mkOp (pc0 : Nat) (f : Array Slot → List Value → Option St) (hs : ∀ (Ls : Array Slot) (st : List Value) (b : St) (G : Option Value → State → Prop), f Ls st = some b → Go κ G T b.1 b.2.1 b.2.2 → Go κ G T pc0 Ls st) : Opn κ T :=
  ⟨fun a => match Nat.beq a.1 pc0 with | true => f a.2.1 a.2.2 | false => none, by
    intro a b G h g
    obtain ⟨pc, Ls, st⟩ := a
    dsimp only at h
    split at h
    · rename_i hb
      have := Nat.eq_of_beq_eq_true hb
      subst this
      exact hs Ls st b G h g
    · cases h⟩
end Base
section Ops
variable {κ : Cx} {T : State} {pc0 : Nat}
def oIconst (w : Ok κ T) {i : Int} (hd : decode κ.c.code pc0 = .ok (.iconst i, 1)) : Opn κ T := mkOp pc0 (fun Ls st => some (pc0 + 1, Ls, .int (Int32.ofInt i) :: st)) (by
  intro Ls st b G h g; cases h; exact Fx.via (fun _ => XS.iconst w.1 w.2 rfl hd) g)
def oBipush (w : Ok κ T) {i : Int} (hd : decode κ.c.code pc0 = .ok (.bipush i, 2)) : Opn κ T := mkOp pc0 (fun Ls st => some (pc0 + 2, Ls, .int (Int8.ofInt i).toInt32 :: st)) (by
  intro Ls st b G h g; cases h; exact Fx.via (fun _ => XS.bipush w.1 w.2 rfl hd) g)
def oSipush (w : Ok κ T) {i : Int} (hd : decode κ.c.code pc0 = .ok (.sipush i, 3)) : Opn κ T := mkOp pc0 (fun Ls st => some (pc0 + 3, Ls, .int (Int16.ofInt i).toInt32 :: st)) (by
  intro Ls st b G h g; cases h; exact Fx.via (fun _ => XS.sipush w.1 w.2 rfl hd) g)
def oAnull (w : Ok κ T) (hd : decode κ.c.code pc0 = .ok (.aconst_null, 1)) : Opn κ T := mkOp pc0 (fun Ls st => some (pc0 + 1, Ls, .null :: st)) (by
  intro Ls st b G h g; cases h; exact Fx.via (fun _ => XS.aconstNull w.1 w.2 rfl hd) g)
def oIload (w : Ok κ T) {k : Nat} (hd : decode κ.c.code pc0 = .ok (.iload k, 2)) : Opn κ T := mkOp pc0 (fun Ls st => match Ls[k]? with | some (.val (.int v)) => some (pc0 + 2, Ls, .int v :: st) | _ => none) (by
  intro Ls st b G h g
  split at h
  · rename_i v hl; cases h; exact Fx.via (fun _ => XS.iload w.1 w.2 rfl hd hl) g
  · cases h)
def oIloadN (w : Ok κ T) {k : Fin 4} (hd : decode κ.c.code pc0 = .ok (.iload_n k, 1)) : Opn κ T := mkOp pc0 (fun Ls st => match Ls[k.val]? with | some (.val (.int v)) => some (pc0 + 1, Ls, .int v :: st) | _ => none) (by
  intro Ls st b G h g
  split at h
  · rename_i v hl; cases h; exact Fx.via (fun _ => XS.iloadN w.1 w.2 rfl hd hl) g
  · cases h)
def oDload (w : Ok κ T) {k : Nat} (hd : decode κ.c.code pc0 = .ok (.dload k, 2)) : Opn κ T := mkOp pc0 (fun Ls st => match Ls[k]? with | some (.val (.double v)) => some (pc0 + 2, Ls, .double v :: st) | _ => none) (by
  intro Ls st b G h g
  split at h
  · rename_i v hl; cases h; exact Fx.via (fun _ => XS.dload w.1 w.2 rfl hd hl) g
  · cases h)
def oAload (w : Ok κ T) {k : Nat} (hd : decode κ.c.code pc0 = .ok (.aload k, 2)) : Opn κ T := mkOp pc0 (fun Ls st => match Ls[k]? with | some (.val (.ref v)) => some (pc0 + 2, Ls, .ref v :: st) | some (.val .null) => some (pc0 + 2, Ls, .null :: st) | _ => none) (by
  intro Ls st b G h g
  split at h
  · rename_i v hl; cases h; exact Fx.via (fun _ => XS.aload w.1 w.2 rfl hd hl rfl) g
  · rename_i hl; cases h; exact Fx.via (fun _ => XS.aload w.1 w.2 rfl hd hl rfl) g
  · cases h)
def oAloadN (w : Ok κ T) {k : Fin 4} (hd : decode κ.c.code pc0 = .ok (.aload_n k, 1)) : Opn κ T := mkOp pc0 (fun Ls st => match Ls[k.val]? with | some (.val (.ref v)) => some (pc0 + 1, Ls, .ref v :: st) | some (.val .null) => some (pc0 + 1, Ls, .null :: st) | _ => none) (by
  intro Ls st b G h g
  split at h
  · rename_i v hl; cases h; exact Fx.via (fun _ => XS.aloadN w.1 w.2 rfl hd hl rfl) g
  · rename_i hl; cases h; exact Fx.via (fun _ => XS.aloadN w.1 w.2 rfl hd hl rfl) g
  · cases h)
def oIstore (w : Ok κ T) {k : Nat} (hd : decode κ.c.code pc0 = .ok (.istore k, 2)) : Opn κ T := mkOp pc0 (fun Ls st => match st with | .int x :: r => (match storeLocals Ls k (.int x) with | some l' => some (pc0 + 2, l', r) | none => none) | _ => none) (by
  intro Ls st b G h g
  split at h
  · split at h
    · rename_i l' hl; cases h; exact Fx.via (fun _ => XS.istore w.1 w.2 rfl hd rfl hl) g
    · cases h
  · cases h)
def oIstoreN (w : Ok κ T) {k : Fin 4} (hd : decode κ.c.code pc0 = .ok (.istore_n k, 1)) : Opn κ T := mkOp pc0 (fun Ls st => match st with | .int x :: r => (match storeLocals Ls k.val (.int x) with | some l' => some (pc0 + 1, l', r) | none => none) | _ => none) (by
  intro Ls st b G h g
  split at h
  · split at h
    · rename_i l' hl; cases h; exact Fx.via (fun _ => XS.istoreN w.1 w.2 rfl hd rfl hl) g
    · cases h
  · cases h)
def oDstore (w : Ok κ T) {k : Nat} (hd : decode κ.c.code pc0 = .ok (.dstore k, 2)) : Opn κ T := mkOp pc0 (fun Ls st => match st with | .double x :: r => (match storeLocals Ls k (.double x) with | some l' => some (pc0 + 2, l', r) | none => none) | _ => none) (by
  intro Ls st b G h g
  split at h
  · split at h
    · rename_i l' hl; cases h; exact Fx.via (fun _ => XS.dstore w.1 w.2 rfl hd rfl hl) g
    · cases h
  · cases h)
def oAstore (w : Ok κ T) {k : Nat} (hd : decode κ.c.code pc0 = .ok (.astore k, 2)) : Opn κ T := mkOp pc0 (fun Ls st => match st with | .ref x :: r => (match storeLocals Ls k (.ref x) with | some l' => some (pc0 + 2, l', r) | none => none) | .null :: r => (match storeLocals Ls k .null with | some l' => some (pc0 + 2, l', r) | none => none) | _ => none) (by
  intro Ls st b G h g
  split at h
  · split at h
    · rename_i l' hl; cases h; exact Fx.via (fun _ => XS.astore w.1 w.2 rfl hd rfl rfl hl) g
    · cases h
  · split at h
    · rename_i l' hl; cases h; exact Fx.via (fun _ => XS.astore w.1 w.2 rfl hd rfl rfl hl) g
    · cases h
  · cases h)
def oAstoreN (w : Ok κ T) {k : Fin 4} (hd : decode κ.c.code pc0 = .ok (.astore_n k, 1)) : Opn κ T := mkOp pc0 (fun Ls st => match st with | .ref x :: r => (match storeLocals Ls k.val (.ref x) with | some l' => some (pc0 + 1, l', r) | none => none) | .null :: r => (match storeLocals Ls k.val .null with | some l' => some (pc0 + 1, l', r) | none => none) | _ => none) (by
  intro Ls st b G h g
  split at h
  · split at h
    · rename_i l' hl; cases h; exact Fx.via (fun _ => XS.astoreN w.1 w.2 rfl hd rfl rfl hl) g
    · cases h
  · split at h
    · rename_i l' hl; cases h; exact Fx.via (fun _ => XS.astoreN w.1 w.2 rfl hd rfl rfl hl) g
    · cases h
  · cases h)
def oIinc (w : Ok κ T) {k : Nat} {z : Int} (hd : decode κ.c.code pc0 = .ok (.iinc k z, 3)) : Opn κ T := mkOp pc0 (fun Ls st => match Ls[k]? with | some (.val (.int x)) => (match storeLocals Ls k (.int (x + Int32.ofInt z)) with | some l' => some (pc0 + 3, l', st) | none => none) | _ => none) (by
  intro Ls st b G h g
  split at h
  · rename_i x hx
    split at h
    · rename_i l' hl; cases h; exact Fx.via (fun _ => XS.iinc w.1 w.2 rfl hd hx hl) g
    · cases h
  · cases h)
def oBin (pc0 : Nat) (f : Int32 → Int32 → Int32) (hs : ∀ (x y : Int32) (r : List Value) (Ls : Array Slot) (G : Option Value → State → Prop), Go κ G T (pc0 + 1) Ls (.int (f x y) :: r) → Go κ G T pc0 Ls (.int y :: .int x :: r)) : Opn κ T := mkOp pc0 (fun Ls st => match st with | .int y :: .int x :: r => some (pc0 + 1, Ls, .int (f x y) :: r) | _ => none) (by
  intro Ls st b G h g
  split at h
  · cases h; exact hs _ _ _ _ _ g
  · cases h)
def oIadd (w : Ok κ T) (hd : decode κ.c.code pc0 = .ok (.iadd, 1)) : Opn κ T := oBin pc0 (fun x y => x + y) (fun _ _ _ _ _ g => Fx.via (fun _ => XS.iadd w.1 w.2 rfl hd rfl) g)
def oIsub (w : Ok κ T) (hd : decode κ.c.code pc0 = .ok (.isub, 1)) : Opn κ T := oBin pc0 (fun x y => x - y) (fun _ _ _ _ _ g => Fx.via (fun _ => XS.isub w.1 w.2 rfl hd rfl) g)
def oImul (w : Ok κ T) (hd : decode κ.c.code pc0 = .ok (.imul, 1)) : Opn κ T := oBin pc0 (fun x y => x * y) (fun _ _ _ _ _ g => Fx.via (fun _ => XS.imul w.1 w.2 rfl hd rfl) g)
def oIand (w : Ok κ T) (hd : decode κ.c.code pc0 = .ok (.iand, 1)) : Opn κ T := oBin pc0 (fun x y => x &&& y) (fun _ _ _ _ _ g => Fx.via (fun _ => XS.iand w.1 w.2 rfl hd rfl) g)
def oIor (w : Ok κ T) (hd : decode κ.c.code pc0 = .ok (.ior, 1)) : Opn κ T := oBin pc0 (fun x y => x ||| y) (fun _ _ _ _ _ g => Fx.via (fun _ => XS.ior w.1 w.2 rfl hd rfl) g)
def oIxor (w : Ok κ T) (hd : decode κ.c.code pc0 = .ok (.ixor, 1)) : Opn κ T := oBin pc0 (fun x y => x ^^^ y) (fun _ _ _ _ _ g => Fx.via (fun _ => XS.ixor w.1 w.2 rfl hd rfl) g)
def oIshl (w : Ok κ T) (hd : decode κ.c.code pc0 = .ok (.ishl, 1)) : Opn κ T := oBin pc0 (fun x y => x <<< (y &&& 31)) (fun _ _ _ _ _ g => Fx.via (fun _ => XS.ishl w.1 w.2 rfl hd rfl) g)
def oIshr (w : Ok κ T) (hd : decode κ.c.code pc0 = .ok (.ishr, 1)) : Opn κ T := oBin pc0 (fun x y => x >>> (y &&& 31)) (fun _ _ _ _ _ g => Fx.via (fun _ => XS.ishr w.1 w.2 rfl hd rfl) g)
def oIushr (w : Ok κ T) (hd : decode κ.c.code pc0 = .ok (.iushr, 1)) : Opn κ T := oBin pc0 (fun x y => (x.toUInt32 >>> (y &&& 31).toUInt32).toInt32) (fun _ _ _ _ _ g => Fx.via (fun _ => XS.iushr w.1 w.2 rfl hd rfl) g)
def oIrem (w : Ok κ T) (hd : decode κ.c.code pc0 = .ok (.irem, 1)) : Opn κ T := mkOp pc0 (fun Ls st => match st with | .int y :: .int x :: r => (match decEq y 0 with | isTrue _ => none | isFalse _ => some (pc0 + 1, Ls, .int (x % y) :: r)) | _ => none) (by
  intro Ls st b G h g
  split at h
  · split at h
    · cases h
    · rename_i x y r _ hy _; cases h
      refine Fx.via (fun _ z => XS.irem w.1 w.2 rfl hd rfl hy ?_) g
      have q := irem_eq_mod
      rw [q]; exact z
  · cases h)
def oUn (pc0 : Nat) (f : Int32 → Int32) (hs : ∀ (x : Int32) (r : List Value) (Ls : Array Slot) (G : Option Value → State → Prop), Go κ G T (pc0 + 1) Ls (.int (f x) :: r) → Go κ G T pc0 Ls (.int x :: r)) : Opn κ T := mkOp pc0 (fun Ls st => match st with | .int x :: r => some (pc0 + 1, Ls, .int (f x) :: r) | _ => none) (by
  intro Ls st b G h g
  split at h
  · cases h; exact hs _ _ _ _ g
  · cases h)
def oIneg (w : Ok κ T) (hd : decode κ.c.code pc0 = .ok (.ineg, 1)) : Opn κ T := oUn pc0 (fun x => -x) (fun _ _ _ _ g => Fx.via (fun _ => XS.ineg w.1 w.2 rfl hd rfl) g)
def oI2b (w : Ok κ T) (hd : decode κ.c.code pc0 = .ok (.i2b, 1)) : Opn κ T := oUn pc0 (fun x => x.toInt8.toInt32) (fun _ _ _ _ g => Fx.via (fun _ => XS.i2b w.1 w.2 rfl hd rfl) g)
def oI2c (w : Ok κ T) (hd : decode κ.c.code pc0 = .ok (.i2c, 1)) : Opn κ T := oUn pc0 (fun x => x.toUInt32.toUInt16.toUInt32.toInt32) (fun _ _ _ _ g => Fx.via (fun _ => XS.i2c w.1 w.2 rfl hd rfl) g)
def oI2s (w : Ok κ T) (hd : decode κ.c.code pc0 = .ok (.i2s, 1)) : Opn κ T := oUn pc0 (fun x => x.toInt16.toInt32) (fun _ _ _ _ g => Fx.via (fun _ => XS.i2s w.1 w.2 rfl hd rfl) g)
def oI2d (w : Ok κ T) (hd : decode κ.c.code pc0 = .ok (.i2d, 1)) : Opn κ T := mkOp pc0 (fun Ls st => match st with | .int x :: r => some (pc0 + 1, Ls, .double (FP.i2d x) :: r) | _ => none) (by
  intro Ls st b G h g
  split at h
  · cases h; exact Fx.via (fun _ => XS.i2dS w.1 w.2 rfl hd rfl rfl) g
  · cases h)
def oDup (w : Ok κ T) (hd : decode κ.c.code pc0 = .ok (.dup, 1)) : Opn κ T := mkOp pc0 (fun Ls st => match st with | .int x :: r => some (pc0 + 1, Ls, .int x :: .int x :: r) | .ref x :: r => some (pc0 + 1, Ls, .ref x :: .ref x :: r) | _ => none) (by
  intro Ls st b G h g
  split at h
  · cases h; exact Fx.via (fun _ => XS.dup w.1 w.2 rfl hd rfl rfl) g
  · cases h; exact Fx.via (fun _ => XS.dup w.1 w.2 rfl hd rfl rfl) g
  · cases h)
def oPop (w : Ok κ T) (hd : decode κ.c.code pc0 = .ok (.pop, 1)) : Opn κ T := mkOp pc0 (fun Ls st => match st with | .int x :: r => some (pc0 + 1, Ls, r) | .ref x :: r => some (pc0 + 1, Ls, r) | .null :: r => some (pc0 + 1, Ls, r) | _ => none) (by
  intro Ls st b G h g
  split at h
  · cases h; exact Fx.via (fun _ => XS.pop w.1 w.2 rfl hd rfl rfl) g
  · cases h; exact Fx.via (fun _ => XS.pop w.1 w.2 rfl hd rfl rfl) g
  · cases h; exact Fx.via (fun _ => XS.pop w.1 w.2 rfl hd rfl rfl) g
  · cases h)
def oGoto (w : Ok κ T) {o : Int} (pc' : Nat) (hd : decode κ.c.code pc0 = .ok (.goto o, 3)) (ho : 0 ≤ (pc0 : Int) + o := by decide) (hp : ((pc0 : Int) + o).toNat = pc' := by decide) : Opn κ T := mkOp pc0 (fun Ls st => some (pc', Ls, st)) (by
  intro Ls st b G h g; cases h; exact Fx.via (fun _ => XS.goto w.1 w.2 rfl rfl hd ho hp) g)
end Ops
section Branch
variable {κ : Cx} {G : Option Value → State → Prop} {T : State} {pc pc' : Nat} {Ls : Array Slot} {st : List Value} {x y : Int32} {o : Int}
theorem if_icmpG (w : Ok κ T) {cd : ClassFile.Cond} (hd : decode κ.c.code pc = .ok (.if_icmp cd o, 3)) (ho : 0 ≤ (pc : Int) + o) (hp : ((pc : Int) + o).toNat = pc') (hT : if_icmp.holds cd x y = true → Go κ G T pc' Ls st) (hF : if_icmp.holds cd x y = false → Go κ G T (pc + 3) Ls st) : Go κ G T pc Ls (.int y :: .int x :: st) := by
  cases hb : if_icmp.holds cd x y with
  | true => exact Fx.via (fun _ => XS.icmpYes w.1 w.2 rfl rfl hd rfl hb ho hp) (hT hb)
  | false => exact Fx.via (fun _ => XS.icmpNo w.1 w.2 rfl hd rfl hb) (hF hb)
theorem ifG (w : Ok κ T) {cd : ClassFile.Cond} (hd : decode κ.c.code pc = .ok (.ifCond cd o, 3)) (ho : 0 ≤ (pc : Int) + o) (hp : ((pc : Int) + o).toNat = pc') (hT : if_icmp.holds cd x 0 = true → Go κ G T pc' Ls st) (hF : if_icmp.holds cd x 0 = false → Go κ G T (pc + 3) Ls st) : Go κ G T pc Ls (.int x :: st) := by
  cases hb : if_icmp.holds cd x 0 with
  | true => exact Fx.via (fun _ => XS.ifYes w.1 w.2 rfl rfl hd rfl ((if0 cd x).trans hb) ho hp) (hT hb)
  | false => exact Fx.via (fun _ => XS.ifNo w.1 w.2 rfl hd rfl ((if0 cd x).trans hb)) (hF hb)
theorem h_eq {x y : Int32} : (if_icmp.holds .eq x y = true → x = y) ∧ (if_icmp.holds .eq x y = false → ¬ x = y) := ⟨fun h => Classical.byContradiction fun q => (by rw [(feq q).1] at h; cases h), fun h q => (by rw [(teq q).1] at h; cases h)⟩
theorem h_ne {x y : Int32} : (if_icmp.holds .ne x y = true → ¬ x = y) ∧ (if_icmp.holds .ne x y = false → x = y) := ⟨fun h q => (by rw [(teq q).2] at h; cases h), fun h => Classical.byContradiction fun q => (by rw [(feq q).2] at h; cases h)⟩
theorem h_lt {x y : Int32} : (if_icmp.holds .lt x y = true → x < y) ∧ (if_icmp.holds .lt x y = false → ¬ x < y) := ⟨fun h => Classical.byContradiction fun q => (by rw [(flt q).1] at h; cases h), fun h q => (by rw [(tlt q).1] at h; cases h)⟩
theorem h_ge {x y : Int32} : (if_icmp.holds .ge x y = true → ¬ x < y) ∧ (if_icmp.holds .ge x y = false → x < y) := ⟨fun h q => (by rw [(tlt q).2.1] at h; cases h), fun h => Classical.byContradiction fun q => (by rw [(flt q).2.1] at h; cases h)⟩
theorem h_gt {x y : Int32} : (if_icmp.holds .gt x y = true → y < x) ∧ (if_icmp.holds .gt x y = false → ¬ y < x) := ⟨fun h => Classical.byContradiction fun q => (by rw [(flt q).2.2.1] at h; cases h), fun h q => (by rw [(tlt q).2.2.1] at h; cases h)⟩
theorem h_le {x y : Int32} : (if_icmp.holds .le x y = true → ¬ y < x) ∧ (if_icmp.holds .le x y = false → y < x) := ⟨fun h q => (by rw [(tlt q).2.2.2] at h; cases h), fun h => Classical.byContradiction fun q => (by rw [(flt q).2.2.2] at h; cases h)⟩
theorem cEq (w : Ok κ T) (hd : decode κ.c.code pc = .ok (.if_icmp .eq o, 3)) (ho : 0 ≤ (pc : Int) + o) (hp : ((pc : Int) + o).toNat = pc') (hT : x = y → Go κ G T pc' Ls st) (hF : ¬ x = y → Go κ G T (pc + 3) Ls st) : Go κ G T pc Ls (.int y :: .int x :: st) := if_icmpG w hd ho hp (fun q => hT (h_eq.1 q)) (fun q => hF (h_eq.2 q))
theorem cNe (w : Ok κ T) (hd : decode κ.c.code pc = .ok (.if_icmp .ne o, 3)) (ho : 0 ≤ (pc : Int) + o) (hp : ((pc : Int) + o).toNat = pc') (hT : ¬ x = y → Go κ G T pc' Ls st) (hF : x = y → Go κ G T (pc + 3) Ls st) : Go κ G T pc Ls (.int y :: .int x :: st) := if_icmpG w hd ho hp (fun q => hT (h_ne.1 q)) (fun q => hF (h_ne.2 q))
theorem cLt (w : Ok κ T) (hd : decode κ.c.code pc = .ok (.if_icmp .lt o, 3)) (ho : 0 ≤ (pc : Int) + o) (hp : ((pc : Int) + o).toNat = pc') (hT : x < y → Go κ G T pc' Ls st) (hF : ¬ x < y → Go κ G T (pc + 3) Ls st) : Go κ G T pc Ls (.int y :: .int x :: st) := if_icmpG w hd ho hp (fun q => hT (h_lt.1 q)) (fun q => hF (h_lt.2 q))
theorem cGe (w : Ok κ T) (hd : decode κ.c.code pc = .ok (.if_icmp .ge o, 3)) (ho : 0 ≤ (pc : Int) + o) (hp : ((pc : Int) + o).toNat = pc') (hT : ¬ x < y → Go κ G T pc' Ls st) (hF : x < y → Go κ G T (pc + 3) Ls st) : Go κ G T pc Ls (.int y :: .int x :: st) := if_icmpG w hd ho hp (fun q => hT (h_ge.1 q)) (fun q => hF (h_ge.2 q))
theorem cGt (w : Ok κ T) (hd : decode κ.c.code pc = .ok (.if_icmp .gt o, 3)) (ho : 0 ≤ (pc : Int) + o) (hp : ((pc : Int) + o).toNat = pc') (hT : y < x → Go κ G T pc' Ls st) (hF : ¬ y < x → Go κ G T (pc + 3) Ls st) : Go κ G T pc Ls (.int y :: .int x :: st) := if_icmpG w hd ho hp (fun q => hT (h_gt.1 q)) (fun q => hF (h_gt.2 q))
theorem cLe (w : Ok κ T) (hd : decode κ.c.code pc = .ok (.if_icmp .le o, 3)) (ho : 0 ≤ (pc : Int) + o) (hp : ((pc : Int) + o).toNat = pc') (hT : ¬ y < x → Go κ G T pc' Ls st) (hF : y < x → Go κ G T (pc + 3) Ls st) : Go κ G T pc Ls (.int y :: .int x :: st) := if_icmpG w hd ho hp (fun q => hT (h_le.1 q)) (fun q => hF (h_le.2 q))
theorem zEq (w : Ok κ T) (hd : decode κ.c.code pc = .ok (.ifCond .eq o, 3)) (ho : 0 ≤ (pc : Int) + o) (hp : ((pc : Int) + o).toNat = pc') (hT : x = 0 → Go κ G T pc' Ls st) (hF : ¬ x = 0 → Go κ G T (pc + 3) Ls st) : Go κ G T pc Ls (.int x :: st) := ifG w hd ho hp (fun q => hT (h_eq.1 q)) (fun q => hF (h_eq.2 q))
theorem zNe (w : Ok κ T) (hd : decode κ.c.code pc = .ok (.ifCond .ne o, 3)) (ho : 0 ≤ (pc : Int) + o) (hp : ((pc : Int) + o).toNat = pc') (hT : ¬ x = 0 → Go κ G T pc' Ls st) (hF : x = 0 → Go κ G T (pc + 3) Ls st) : Go κ G T pc Ls (.int x :: st) := ifG w hd ho hp (fun q => hT (h_ne.1 q)) (fun q => hF (h_ne.2 q))
theorem zLt (w : Ok κ T) (hd : decode κ.c.code pc = .ok (.ifCond .lt o, 3)) (ho : 0 ≤ (pc : Int) + o) (hp : ((pc : Int) + o).toNat = pc') (hT : x < 0 → Go κ G T pc' Ls st) (hF : ¬ x < 0 → Go κ G T (pc + 3) Ls st) : Go κ G T pc Ls (.int x :: st) := ifG w hd ho hp (fun q => hT (h_lt.1 q)) (fun q => hF (h_lt.2 q))
theorem zGe (w : Ok κ T) (hd : decode κ.c.code pc = .ok (.ifCond .ge o, 3)) (ho : 0 ≤ (pc : Int) + o) (hp : ((pc : Int) + o).toNat = pc') (hT : ¬ x < 0 → Go κ G T pc' Ls st) (hF : x < 0 → Go κ G T (pc + 3) Ls st) : Go κ G T pc Ls (.int x :: st) := ifG w hd ho hp (fun q => hT (h_ge.1 q)) (fun q => hF (h_ge.2 q))
theorem zGt (w : Ok κ T) (hd : decode κ.c.code pc = .ok (.ifCond .gt o, 3)) (ho : 0 ≤ (pc : Int) + o) (hp : ((pc : Int) + o).toNat = pc') (hT : 0 < x → Go κ G T pc' Ls st) (hF : ¬ 0 < x → Go κ G T (pc + 3) Ls st) : Go κ G T pc Ls (.int x :: st) := ifG w hd ho hp (fun q => hT (h_gt.1 q)) (fun q => hF (h_gt.2 q))
theorem zLe (w : Ok κ T) (hd : decode κ.c.code pc = .ok (.ifCond .le o, 3)) (ho : 0 ≤ (pc : Int) + o) (hp : ((pc : Int) + o).toNat = pc') (hT : ¬ 0 < x → Go κ G T pc' Ls st) (hF : 0 < x → Go κ G T (pc + 3) Ls st) : Go κ G T pc Ls (.int x :: st) := ifG w hd ho hp (fun q => hT (h_le.1 q)) (fun q => hF (h_le.2 q))
theorem nnRef (w : Ok κ T) {a : Addr} (hd : decode κ.c.code pc = .ok (.ifnonnull o, 3)) (ho : 0 ≤ (pc : Int) + o) (hp : ((pc : Int) + o).toNat = pc') (g : Go κ G T pc' Ls st) : Go κ G T pc Ls (.ref a :: st) := Fx.via (fun _ => XT.nonnullYes w.1 w.2 rfl rfl hd rfl rfl (fun q => nomatch q) ho hp) g
theorem nnNull (w : Ok κ T) (hd : decode κ.c.code pc = .ok (.ifnonnull o, 3)) (g : Go κ G T (pc + 3) Ls st) : Go κ G T pc Ls (.null :: st) := Fx.via (fun _ => XT.nonnullNo w.1 w.2 rfl hd rfl rfl) g
theorem nuNull (w : Ok κ T) (hd : decode κ.c.code pc = .ok (.ifnull o, 3)) (ho : 0 ≤ (pc : Int) + o) (hp : ((pc : Int) + o).toNat = pc') (g : Go κ G T pc' Ls st) : Go κ G T pc Ls (.null :: st) := Fx.via (fun _ => XS.ifnullYes w.1 w.2 rfl rfl hd rfl ho hp) g
theorem nuRef (w : Ok κ T) {a : Addr} (hd : decode κ.c.code pc = .ok (.ifnull o, 3)) (g : Go κ G T (pc + 3) Ls st) : Go κ G T pc Ls (.ref a :: st) := Fx.via (fun _ => XS.ifnullNo w.1 w.2 rfl hd rfl) g
theorem aloadV (w : Ok κ T) {k : Nat} {v : Value} (hd : decode κ.c.code pc = .ok (.aload k, 2)) (hl : Ls[k]? = some (.val v)) (hv : v.isRef = true) (g : Go κ G T (pc + 2) Ls (v :: st)) : Go κ G T pc Ls st := Fx.via (fun _ => XS.aload w.1 w.2 rfl hd hl hv) g
theorem aloadNV (w : Ok κ T) {k : Fin 4} {v : Value} (hd : decode κ.c.code pc = .ok (.aload_n k, 1)) (hl : Ls[k.val]? = some (.val v)) (hv : v.isRef = true) (g : Go κ G T (pc + 1) Ls (v :: st)) : Go κ G T pc Ls st := Fx.via (fun _ => XS.aloadN w.1 w.2 rfl hd hl hv) g
theorem astoreV (w : Ok κ T) {k : Nat} {v : Value} {l' : Array Slot} (hd : decode κ.c.code pc = .ok (.astore k, 2)) (hv : v.isRef = true) (hl : storeLocals Ls k v = some l') (g : Go κ G T (pc + 2) l' st) : Go κ G T pc Ls (v :: st) := Fx.via (fun _ => XS.astore w.1 w.2 rfl hd rfl hv hl) g
theorem astoreNV (w : Ok κ T) {k : Fin 4} {v : Value} {l' : Array Slot} (hd : decode κ.c.code pc = .ok (.astore_n k, 1)) (hv : v.isRef = true) (hl : storeLocals Ls k.val v = some l') (g : Go κ G T (pc + 1) l' st) : Go κ G T pc Ls (v :: st) := Fx.via (fun _ => XS.astoreN w.1 w.2 rfl hd rfl hv hl) g
theorem istoreG (w : Ok κ T) {k : Nat} {o' : Slot} (hd : decode κ.c.code pc = .ok (.istore k, 2)) (hold : Ls[k]? = some o') (ho : One o') (g : Go κ G T (pc + 2) (Ls.setIfInBounds k (.val (.int x))) st) : Go κ G T pc Ls (.int x :: st) := Fx.via (fun _ => XS.istoreS w.1 w.2 rfl hd rfl hold ho) g
theorem istoreNG (w : Ok κ T) {k : Fin 4} {o' : Slot} (hd : decode κ.c.code pc = .ok (.istore_n k, 1)) (hold : Ls[k.val]? = some o') (ho : One o') (g : Go κ G T (pc + 1) (Ls.setIfInBounds k.val (.val (.int x))) st) : Go κ G T pc Ls (.int x :: st) := Fx.via (fun _ => XS.istoreNS w.1 w.2 rfl hd rfl hold ho) g
theorem astoreG (w : Ok κ T) {k : Nat} {o' : Slot} {a : Addr} (hd : decode κ.c.code pc = .ok (.astore k, 2)) (hold : Ls[k]? = some o') (ho : One o') (g : Go κ G T (pc + 2) (Ls.setIfInBounds k (.val (.ref a))) st) : Go κ G T pc Ls (.ref a :: st) := Fx.via (fun _ => XS.astoreS w.1 w.2 rfl hd rfl rfl rfl hold ho) g
end Branch
end Jvm.WK
namespace Jvm.WK
open Sem ClassFile Op Lib Jvm.Stand Jvm.Free Jvm.LawKit Jvm.RoadKit Bundle
/-! WKN: the narrow walk's relation: CHr, and the tables have only warmed -/
def Nw (vm vm' : Vm) : Prop := ∀ s : State, s.vm = vm → s.WarmedH vm'
theorem Nw.refl (vm : Vm) : Nw vm vm := fun s h => by subst h; exact State.WarmedH.refl s
theorem Nw.trans {a b c : Vm} (h1 : Nw a b) (h2 : Nw b c) : Nw a c := fun s h => State.WarmedH.trans (t := s.setVm b) (h1 s h) (h2 (s.setVm b) rfl)
def CVn (Z : State) (EL : List (String × Nat)) (vm : Vm) (h : Heap) : Prop := CHv Z EL vm h ∧ Nw Z.vm vm
def CRn (Z : State) (EL : List (String × Nat)) (vm : Vm) (h : Heap) (vm' : Vm) (h' : Heap) : Prop := CVn Z EL vm' h' ∧ CHr Z EL vm h vm' h' ∧ Nw vm vm'
section CRnFacts
variable {Z : State} {EL : List (String × Nat)} {vm vm1 vm2 : Vm} {h h' h2 : Heap}
theorem CVn.keep {ws : List Addr} (K : Keep h h' ws) (hs : ∀ x ∈ ws, Safe Z EL vm h x) (H : CVn Z EL vm h) : CVn Z EL vm h' := ⟨H.1.keep K hs, H.2⟩
theorem CRn.refl (H : CVn Z EL vm h) : CRn Z EL vm h vm h := ⟨H, CHr.refl H.1, Nw.refl vm⟩
theorem CRn.trans (A : CRn Z EL vm h vm1 h') (B : CRn Z EL vm1 h' vm2 h2) : CRn Z EL vm h vm2 h2 := ⟨B.1, A.2.1.trans B.2.1, A.2.2.trans B.2.2⟩
theorem CRn.safe (A : CRn Z EL vm h vm1 h') {x : Addr} (hx : x < h.size) (S : Safe Z EL vm h x) : Safe Z EL vm1 h' x := A.2.1.safe hx S
theorem CRn.ext (E : Ext h h') (H : CVn Z EL vm h) : CRn Z EL vm h vm h' := ⟨⟨H.1.ext E, H.2⟩, CHr.ext E H.1, Nw.refl vm⟩
theorem CRn.keep {ws : List Addr} (K : Keep h h' ws) (hs : ∀ x ∈ ws, Safe Z EL vm h x) (H : CVn Z EL vm h) : CRn Z EL vm h vm h' := ⟨H.keep K hs, CHr.keep K hs H.1, Nw.refl vm⟩
theorem CRn.wr {a : Addr} {sl : Nat} {v : Value} (W : Wr h h' a sl v) (S : Safe Z EL vm h a) (H : CVn Z EL vm h) : CRn Z EL vm h vm h' := ⟨⟨H.1.wr W S, H.2⟩, CHr.wr W S H.1, Nw.refl vm⟩
theorem CRn.at {p : Program} {l : Launch} {e : Env} {R : Room} {s : State} {m : MethodId} {args : Array Value} {below : List Frame} {meth : Method} {c : Code} {T : State} {locs : List Loc} {cells slots : Nat} {a0 : Array Value} (X : Stand p l e R (s.setVm vm) m args below meth c T locs cells slots) (hZ : Z.Warmed39 vm) (w : EW Z a0 EL) (H : CVn Z EL vm h) : CRn Z EL vm h T.vm h :=
  have n : Nw vm T.vm := fun u hu => State.WarmedH.of_rootvm (s := s.setVm vm) hu X.warmed
  ⟨⟨(CHv.at X hZ w H.1).1, H.2.trans n⟩, CHv.at X hZ w H.1, n⟩
end CRnFacts
end Jvm.WK
namespace Jvm.WK
open Sem ClassFile Op Lib Jvm.Stand Jvm.Free Jvm.LawKit Jvm.RoadKit Bundle
theorem wd {L : List Jvm.Cond} {a0 : Array Value} {Z : State} (hw : ∀ d ∈ L, d.before a0 Z = true) (k : Nat) {d : Jvm.Cond} (h : L[k]? = some d) : d.before a0 Z = true := hw d (List.mem_of_getElem? h)
/-- an array of ints (or chars, bytes ..) with its values -/
def Ary (Z : State) (h : Heap) (a : Addr) (ty : FieldType) (vs : List Int32) : Prop :=
  ∃ c : Cell, Arr Z h a c ty ∧ c.slots.toList = vs.map Value.int ∧ vs.length < 2147483648 ∧ ∀ v ∈ vs, fits ty (.int v) = true
section AryFacts
variable {Z : State} {h h' : Heap} {a b : Addr} {ty : FieldType} {vs : List Int32} {ws : List Addr} {sl : Nat} {v : Value}
theorem Ary.lt (F : Ary Z h a ty vs) : a < h.size := by obtain ⟨c, A, -⟩ := F; exact A.lt
theorem Ary.ext (E : Ext h h') (F : Ary Z h a ty vs) : Ary Z h' a ty vs := by obtain ⟨c, A, r⟩ := F; exact ⟨c, A.ext E, r⟩
theorem Ary.other (W : Wr h h' b sl v) (F : Ary Z h a ty vs) (q : a ≠ b) : Ary Z h' a ty vs := by obtain ⟨c, A, r⟩ := F; exact ⟨c, A.other W q, r⟩
theorem Ary.keep (K : Keep h h' ws) (F : Ary Z h a ty vs) (q : a ∉ ws) : Ary Z h' a ty vs := by obtain ⟨c, A, r⟩ := F; exact ⟨c, ⟨K.2.1 a c A.1 q, A.2⟩, r⟩
theorem Ary.small (F : Ary Z h a ty vs) : vs.length < 2147483648 := by obtain ⟨c, A, r1, r2, -⟩ := F; exact r2
theorem Ary.fit (F : Ary Z h a ty vs) : ∀ v ∈ vs, fits ty (.int v) = true := by obtain ⟨c, A, r1, r2, r3⟩ := F; exact r3
theorem clamp_ofNat {i : Nat} (h : i < 2147483648) : (Int32.ofNat i).toNatClampNeg = i := by
  have h1 : (Int32.ofNat i).toInt = (i : Int) := Int32.toInt_ofNat_small (by omega)
  show (Int32.ofNat i).toInt.toNat = i
  rw [h1]; rfl
theorem nneg_ofNat {i : Nat} (h : i < 2147483648) : ¬ (Int32.ofNat i) < 0 := by
  have h1 : (Int32.ofNat i).toInt = (i : Int) := Int32.toInt_ofNat_small (by omega)
  rw [Int32.lt_iff_toInt_lt, h1]
  show ¬ ((i : Int) < 0)
  omega
theorem Ary.inb {c : Cell} {i : Nat} (hs : c.slots.toList = vs.map Value.int) (hl : vs.length < 2147483648) (hi : i < vs.length) : ¬ (Int32.ofNat i < 0 ∨ c.slots.size ≤ (Int32.ofNat i).toNatClampNeg) := by
  have hz : c.slots.size = vs.length := by
    have := congrArg List.length hs
    simpa using this
  rw [clamp_ofNat (by omega)]
  have := nneg_ofNat (i := i) (by omega)
  exact fun q => q.elim this (fun q => by omega)
theorem Ary.at {c : Cell} {i : Nat} (hs : c.slots.toList = vs.map Value.int) (hl : vs.length < 2147483648) (hi : i < vs.length) {x : Int32} (hx : vs[i]? = some x) : c.slots[(Int32.ofNat i).toNatClampNeg]? = some (.int x) := by
  rw [clamp_ofNat (by omega)]
  have : c.slots[i]? = c.slots.toList[i]? := by simp
  rw [this, hs]
  simp [hx]
theorem Ary.arv (F : Ary Z h a ty vs) : ∃ k, Arv Z h a k ty (Int32.ofNat vs.length) (vs.map Value.int) (.int 0) := by
  obtain ⟨c, A, r1, r2, r3⟩ := F
  have hz : c.slots.size = vs.length := by
    have := congrArg List.length r1
    simpa using this
  have H : Has c (vs.map Value.int) (.int 0) := fun k hk => by
    have : c.slots[k]? = c.slots.toList[k]? := by simp
    rw [this, r1]
    have hk' : k < vs.length := by omega
    simp [List.getD, hk']
  refine ⟨c.cls, c, A, rfl, by rw [hz, clamp_ofNat r2], nneg_ofNat r2, H, fun i hi => ?_⟩
  have hi' : i < vs.length := by omega
  simp only [List.getD, List.getElem?_map, List.getElem?_eq_getElem hi', Option.map_some, Option.getD_some]
  exact r3 _ (List.getElem_mem hi')
theorem Ary.of_arv {k : ClassId} {z : Int32} (hz : z.toNatClampNeg = vs.length) (F : Arv Z h a k ty z (vs.map Value.int) (.int 0)) : Ary Z h a ty vs := by
  obtain ⟨c, A, r1, r2, r3, H, r4⟩ := F
  have hs : c.slots.size = vs.length := r2.trans hz
  have hb := (back32 r3).2
  refine ⟨c, A, ?_, by omega, fun v hv => ?_⟩
  · apply List.ext_getElem?
    intro i
    by_cases hi : i < c.slots.size
    · have := H i hi
      have e : c.slots[i]? = c.slots.toList[i]? := by simp
      rw [← e, this]
      have hi' : i < vs.length := by omega
      simp [List.getD, hi']
    · rw [List.getElem?_eq_none (by simpa using Nat.le_of_not_lt hi), List.getElem?_eq_none (by simp; omega)]
  · obtain ⟨i, hi, rfl⟩ := List.getElem_of_mem hv
    have := r4 i (by omega)
    simpa [List.getD, hi] using this
theorem Ary.set {x : Int32} {i : Nat} (F : Ary Z h a ty vs) (hi : i < vs.length) (hx : fits ty (.int x) = true) (Wq : Wr h h' a (Int32.ofNat i).toNatClampNeg (.int x)) : Ary Z h' a ty (vs.set i x) := by
  obtain ⟨c, A, r1, r2, r3⟩ := F
  refine ⟨c.setSlot (Int32.ofNat i).toNatClampNeg (.int x), A.same Wq, ?_, by simpa using r2, fun v hv => ?_⟩
  · rw [clamp_ofNat (by omega)]
    simp [Cell.setSlot, r1, List.map_set]
  · rcases List.mem_or_eq_of_mem_set hv with q | q
    · exact r3 v q
    · rw [q]; exact hx
theorem Ary.new {k : ClassId} {z : Int32} {n : Nat} (A : Arr Z h a (newA k ty z) ty) (hn : z.toNatClampNeg = n) (hb : n < 2147483648) (hd : defaultValue ty = .int 0) (hf : fits ty (.int 0) = true) : Ary Z h a ty (List.replicate n 0) := by
  refine ⟨_, A, by simp [newA, hn, hd], by simpa using hb, fun v hv => ?_⟩
  rw [(List.mem_replicate.mp hv).2]; exact hf
theorem Ary.ne_ty {ty' : FieldType} {vs' : List Int32} (F : Ary Z h a ty vs) (F' : Ary Z h b ty' vs') (q : ty ≠ ty') : a ≠ b := fun e => by
  subst e
  obtain ⟨c, ⟨A1, ⟨-, k, A2, comp, A3⟩, -⟩, -⟩ := F
  obtain ⟨c', ⟨B1, ⟨-, k', B2, comp', B3⟩, -⟩, -⟩ := F'
  cases A1.symm.trans B1
  cases A2.symm.trans B2
  rw [A3] at B3
  cases B3; exact q rfl
theorem Ary.safe {EL : List (String × Nat)} {vm : Vm} (hal : Z.vm.Alike vm) (F : Ary Z h a ty vs) (q : ty ≠ .byte) : Safe Z EL vm h a := by obtain ⟨c, A, -⟩ := F; exact Safe.arr hal A q
end AryFacts
theorem safe_nil {Z : State} {vm : Vm} {h : Heap} {x : Addr} : Safe Z [] vm h x := fun B => by obtain ⟨p, hp, -⟩ := B; cases hp
/-- where the walk stands: s the invocation's start, vm the tables of its last interning, Z the case's start -/
def W (κ : Cx) (l : Launch) (R : Room) (Z : State) (EL : List (String × Nat)) (own nm : String) (mx : Nat) (rt : Option FieldType) (vm : Vm) (T : State) (h : Heap) (k n : Nat) : Prop :=
  (κ.p.tables.exec = Jvm.exec ∧ κ.c.maxLocals = mx ∧ κ.M.sig.returnType = rt ∧ κ.M.locks = false ∧ κ.M.name = nm ∧ ∃ a0, EW Z a0 EL) ∧
  ∃ (locs : List Loc) (k0 : Nat), Stand κ.p l κ.e R (κ.s.setVm vm) κ.m κ.a κ.b κ.M κ.c T locs k n ∧ T.heap = h ∧ κ.s.Since vm k0 ∧ k0 ≤ h.size ∧ Z.Warmed39 vm ∧ vm.findClass own = some κ.m.cls ∧ Fr Z.heap.size locs ∧ CRn Z EL κ.s.vm κ.s.heap vm h
/-- what an invocation owes at its end -/
def GQ (κ : Cx) (Z : State) (EL : List (String × Nat)) (rm : Room) (Q : Option Value → Heap → (Addr → Prop) → Prop) : Option Value → State → Prop :=
  fun v B => ∃ L, (Q v B.heap (Safe Z EL B.vm B.heap) ∧ Fr Z.heap.size L) ∧ CRn Z EL κ.s.vm κ.s.heap B.vm B.heap ∧ ReturnedEndW κ.s (.returned v) B L rm.cells rm.slots
/-- a contract -/
def Ctr (l : Launch) (Z : State) (EL : List (String × Nat)) (y : MethodName) (bytes : ByteArray) (maxL : Nat) (ret : Option FieldType) (ws : List Jvm.Cond) (rm : Room) (sf : List Addr) (as' : Array Value) (h : Heap) (Q : Option Value → Heap → (Addr → Prop) → Prop) : Prop :=
  MetFree l y (head1 (Jvm.Cond.code y bytes maxL ret :: ws) rm) (fun a U => a = as' ∧ Z.Warmed39 U.vm ∧ U.heap = h ∧ CVn Z EL U.vm h ∧ ∀ x ∈ sf, Safe Z EL U.vm h x) (fun _ _ _ _ _ => True) (fun _ U o U' => ∃ v L, o = .returned v ∧ (Q v U'.heap (Safe Z EL U'.vm U'.heap) ∧ Fr Z.heap.size L) ∧ CRn Z EL U.vm U.heap U'.vm U'.heap ∧ ReturnedEndW U o U' L rm.cells rm.slots)
theorem enter {l : Launch} {Z : State} {EL : List (String × Nat)} {y : MethodName} {bytes : ByteArray} {maxL : Nat} {ret : Option FieldType} {ws : List Jvm.Cond} {rm : Room} {sf : List Addr} {as' : Array Value} {h : Heap} {Q : Option Value → Heap → (Addr → Prop) → Prop} {a0 : Array Value} (hpl : plainName y.cls = true) (hEL : EW Z a0 EL) {Ls : Array Slot} (hef : ∀ m, entryFrame m as' maxL = mkF m 0 Ls [])
    (body : ∀ (κ : Cx) (vm : Vm) (T : State), κ.c.code = bytes → κ.s.heap = h → W κ l rm Z EL y.cls y.name maxL ret vm T h 0 0 → (∀ x ∈ sf, Safe Z EL vm h x) → Go κ (GQ κ Z EL rm Q) T 0 Ls []) : Ctr l Z EL y bytes maxL ret ws rm sf as' h Q := by
  refine MetFree.of_bodySF (plainFor_of_name hpl) hisR ?_
  intro p e s m args below meth c s₁ Bd hml hP hK
  obtain ⟨rfl, hZ, hh, hC, hSf⟩ := hP
  have hown : s.vm.findClass y.cls = some m.cls := findClass_of_methodNamed Bd.named
  have hnm := (name_of_methodNamed Bd.named Bd.method).1
  have X0 : Stand p l e rm s m args below meth c s₁ [] 0 0 := Stand.of_body Bd
  have e0 : s₁.heap = h := by rw [← hh, Bd.state]; rfl
  have w : W (p, e, s, m, args, below, meth, c) l rm Z EL y.cls y.name maxL ret s.vm s₁ h 0 0 :=
    ⟨⟨Bd.exec, hml, Bd.returns, Bd.notSynchronized, hnm, a0, hEL⟩, [], s.heap.size, X0, e0, (State.WarmedH.refl s).since _, by rw [hh]; exact Nat.le_refl _, hZ, hown, Fr.nil _, by rw [hh]; exact CRn.refl hC⟩
  obtain ⟨v, B, h1, h2, h3, L, h4, h5, h6⟩ := body (p, e, s, m, args, below, meth, c) s.vm s₁ Bd.bytes hh w hSf
  refine ⟨B, .returned v, castTop (hef m) h1, h2, h3, v, L, rfl, h4, h5, h6⟩
section Laws
variable {κ : Cx} {l : Launch} {R : Room} {Z : State} {EL : List (String × Nat)} {own nm : String} {mx : Nat} {rt : Option FieldType} {vm : Vm} {T : State} {h : Heap} {k n : Nat} {G : Option Value → State → Prop} {a0 : Array Value} {pc : Nat} {Ls : Array Slot} {st : List Value}
theorem W.ok (w : W κ l R Z EL own nm mx rt vm T h k n) : Ok κ T := by obtain ⟨w1, _, _, X, -⟩ := w; exact ⟨X.here, w1.1⟩
theorem W.cvn (w : W κ l R Z EL own nm mx rt vm T h k n) : CVn Z EL vm h := by obtain ⟨w1, _, _, X, -, -, -, -, -, -, C⟩ := w; exact C.1
theorem W.chv (w : W κ l R Z EL own nm mx rt vm T h k n) : CHv Z EL vm h := w.cvn.1
theorem W.warm (w : W κ l R Z EL own nm mx rt vm T h k n) : Z.Warmed39 vm := by obtain ⟨w1, _, _, X, -, -, -, hZ, -⟩ := w; exact hZ
theorem W.alike (w : W κ l R Z EL own nm mx rt vm T h k n) : Z.vm.Alike vm := w.warm.alike
theorem W.mono (w : W κ l R Z EL own nm mx rt vm T h k n) {k' n' : Nat} (hk : k ≤ k') (hn : n ≤ n') : W κ l R Z EL own nm mx rt vm T h k' n' := by
  obtain ⟨w1, L, k0, X, r⟩ := w; exact ⟨w1, L, k0, X.mono hk hn, r⟩
theorem W.heap (w : W κ l R Z EL own nm mx rt vm T h k n) : T.heap = h := by obtain ⟨w1, _, _, X, e, -⟩ := w; exact e
/-- all that stood at the case's start stands as it was -/
theorem W.old (w : W κ l R Z EL own nm mx rt vm T h k n) (o : Ext Z.heap κ.s.heap) : Ext Z.heap h := by
  obtain ⟨w1, L, k0, X, e, -, -, -, -, N, -⟩ := w
  subst e
  refine ⟨Nat.le_trans o.1 X.same.2.1, fun b cl hb => ?_⟩
  obtain ⟨c', h1, h2, -, h4⟩ := X.same.2.2.2.2.2 b cl (o.2 _ _ hb)
  have hlt := (Array.getElem?_eq_some_iff.mp hb).1
  have hsl : c'.slots = cl.slots := Array.ext_getElem? fun i => h4 i fun hm => absurd (N _ hm) (Nat.not_le.mpr hlt)
  have hcc : c' = cl := by rw [h2, hsl]
  rw [← hcc]; exact h1
/-- a step that keeps vm: the heap only grows -/
theorem W.grow {T' : State} {h' : Heap} {k' n' : Nat} (w : W κ l R Z EL own nm mx rt vm T h k n) (E : Ext h h') (eT : T'.heap = h') (hX : ∀ locs, Stand κ.p l κ.e R (κ.s.setVm vm) κ.m κ.a κ.b κ.M κ.c T locs k n → Stand κ.p l κ.e R (κ.s.setVm vm) κ.m κ.a κ.b κ.M κ.c T' locs k' n') : W κ l R Z EL own nm mx rt vm T' h' k' n' := by
  obtain ⟨w1, L, k0, X, e, hS, hk, hZ, ho, N, C⟩ := w
  exact ⟨w1, L, k0, hX L X, eT, hS, Nat.le_trans hk E.1, hZ, ho, N, C.trans (CRn.ext E C.1)⟩
theorem W.wrote {T' : State} {h' : Heap} {a : Addr} {sl : Nat} {v : Value} {locs : List Loc} {k0 : Nat} (w : W κ l R Z EL own nm mx rt vm T h k n) (hS : κ.s.Since vm k0) (hk : k0 ≤ h.size) (N : Fr Z.heap.size locs) (X : Stand κ.p l κ.e R (κ.s.setVm vm) κ.m κ.a κ.b κ.M κ.c T' (locs ++ [⟨a, sl⟩]) k n) (eT : T'.heap = h') (Wq : Wr h h' a sl v) (S : Safe Z EL vm h a) (ha : Z.heap.size ≤ a) : W κ l R Z EL own nm mx rt vm T' h' k n := by
  obtain ⟨w1, -, -, -, -, -, -, hZ, ho, -, C⟩ := w
  exact ⟨w1, _, k0, X, eT, hS, by rw [Wq.size]; exact hk, hZ, ho, Fr.snoc X N ha, C.trans (CRn.wr Wq S C.1)⟩
theorem W.new (w : W κ l R Z EL own nm mx rt vm T h k n) {C : String} {index sz : Nat} (w1 : (Cond.classLink own index C).before a0 Z = true) (w2 : (Cond.instantiable C sz).before a0 Z = true) (w3 : (Cond.initialized C).before a0 Z = true)
    (hd : decode κ.c.code pc = .ok (.new index, 3)) (hc : k + 1 ≤ R.cells) (hl : n + sz ≤ R.slots)
    (g : ∀ (T' : State) (h' : Heap) (x : Addr), W κ l R Z EL own nm mx rt vm T' h' (k + 1) (n + sz) → x = h.size → Ext h h' → Exa Z h' x C → (∀ {O nm' d : String} {ty : FieldType}, Laid Z a0 C O nm' d → parseFieldDescriptor d = some ty → Fld Z h' x O nm' d (defaultValue ty)) → Safe Z EL vm h' x → Go κ G T' (pc + 3) Ls (.ref x :: st)) : Go κ G T pc Ls st := by
  have w0 := w
  obtain ⟨q1, L, k0, X, e, hS, hk, hZ, ho, N, CC⟩ := w
  obtain ⟨T', h', X', e', E, A, D, -, stp⟩ := newO X q1.1 hZ ho w1 w2 w3 e (g := mkF κ.m pc Ls st) rfl hd hc hl
  exact Fx.via stp (g T' h' h.size ⟨q1, L, k0, X', e', hS, Nat.le_trans hk E.1, hZ, ho, N, CC.trans (CRn.ext E CC.1)⟩ rfl E A D (Safe.ext E w0.chv (Safe.new (Nat.le_refl _))))
theorem W.newarr (w : W κ l R Z EL own nm mx rt vm T h k n) {aty : ArrayType} (w1 : (Cond.arrayClass (newarray.typeOf aty)).before a0 Z = true) {z : Int32} {c : Nat} (hd : decode κ.c.code pc = .ok (.newarray aty, 2)) (hn : ¬ z < 0) (hz : z.toNatClampNeg = c) {cap : Nat} (hcap : c ≤ cap) (hb : cap * 8 ≤ 536870912) (hc : k + 1 ≤ R.cells) (hl : n + cap ≤ R.slots) (hdv : defaultValue (newarray.typeOf aty) = .int 0) (hf : fits (newarray.typeOf aty) (.int 0) = true)
    (g : ∀ (T' : State) (h' : Heap) (x : Addr), W κ l R Z EL own nm mx rt vm T' h' (k + 1) (n + cap) → x = h.size → Ext h h' → Ary Z h' x (newarray.typeOf aty) (List.replicate c 0) → Safe Z EL vm h' x → Go κ G T' (pc + 2) Ls (.ref x :: st)) : Go κ G T pc Ls (.int z :: st) := by
  have w0 := w
  obtain ⟨q1, L, k0, X, e, hS, hk, hZ, ho, N, CC⟩ := w
  obtain ⟨T', h', cA, X', e', E, A, stp⟩ := newP X q1.1 hZ w1 e (g := mkF κ.m pc Ls (.int z :: st)) rfl hd rfl hn (by rw [hz]; exact hcap) hb hc hl
  exact Fx.via stp (g T' h' h.size ⟨q1, L, k0, X', e', hS, Nat.le_trans hk E.1, hZ, ho, N, CC.trans (CRn.ext E CC.1)⟩ rfl E (Ary.new A hz (by omega) hdv hf) (Safe.ext E w0.chv (Safe.new (Nat.le_refl _))))
theorem W.get (w : W κ l R Z EL own nm mx rt vm T h k n) {O f d : String} {index : Nat} (w1 : (Cond.fieldLink own index O f d).before a0 Z = true) {a : Addr} {v : Value} (F : Fld Z h a O f d v) (hd : decode κ.c.code pc = .ok (.getfield index, 3))
    (g : ∀ T' : State, W κ l R Z EL own nm mx rt vm T' h k n → Go κ G T' (pc + 3) Ls (v :: st)) : Go κ G T pc Ls (.ref a :: st) := by
  obtain ⟨q1, L, k0, X, e, hS, hk, hZ, ho, N, CC⟩ := w
  obtain ⟨T', X', e', stp⟩ := getF X q1.1 hZ ho (host := "") (Or.inl w1) Via.refl e F (g := mkF κ.m pc Ls (.ref a :: st)) rfl rfl hd
  exact Fx.via stp (g T' ⟨q1, L, k0, X', e', hS, hk, hZ, ho, N, CC⟩)
theorem W.gets (w : W κ l R Z EL own nm mx rt vm T h k n) {O f d : String} {index : Nat} (w1 : (Cond.fieldLink own index O f d).before a0 Z = true) {v : Value} (F : Sta Z h O f d v) (hd : decode κ.c.code pc = .ok (.getstatic index, 3))
    (g : ∀ T' : State, W κ l R Z EL own nm mx rt vm T' h k n → Go κ G T' (pc + 3) Ls (v :: st)) : Go κ G T pc Ls st := by
  obtain ⟨q1, L, k0, X, e, hS, hk, hZ, ho, N, CC⟩ := w
  obtain ⟨T', X', e', stp⟩ := getS X q1.1 hZ ho (host := "") w1 Via.refl e F (g := mkF κ.m pc Ls st) rfl hd
  exact Fx.via stp (g T' ⟨q1, L, k0, X', e', hS, hk, hZ, ho, N, CC⟩)
theorem W.put (w : W κ l R Z EL own nm mx rt vm T h k n) {O f d C : String} {index kk : Nat} {ty : FieldType} (w1 : (Cond.fieldLink own index O f d).before a0 Z = true) {a : Addr} {v old : Value} (F : Fld Z h a O f d old) (E : Exa Z h a C) (Lw : (Cond.lays C O f d).before a0 Z = true ∨ ((Cond.laysFinal C O f d).before a0 Z = true ∧ own = O ∧ nm = "<init>")) (wi : (Cond.instantiable C kk).before a0 Z = true)
    (hty : parseFieldDescriptor d = some ty) (hn : narrow ty v = v) (hf : fits ty v = true) (S : Safe Z EL vm h a) (ha : Z.heap.size ≤ a) (hd : decode κ.c.code pc = .ok (.putfield index, 3))
    (g : ∀ (T' : State) (h' : Heap), W κ l R Z EL own nm mx rt vm T' h' k n → Wr h h' a (RoadKit.slotOf Z O f d) v → Safe Z EL vm h' a → Go κ G T' (pc + 3) Ls st) : Go κ G T pc Ls (v :: .ref a :: st) := by
  have w0 := w
  obtain ⟨q1, L, k0, X, e, hS, hk, hZ, ho, N, CC⟩ := w
  obtain ⟨T', h', X', e', Wq, stp⟩ := putF X q1.1 hZ ho (host := "") (Or.inl w1) Via.refl e F E (Lw.imp id fun q => ⟨q.1, q.2.1, by rw [q1.2.2.2.2.1]; exact q.2.2⟩) wi hty hn hf (g := mkF κ.m pc Ls (v :: .ref a :: st)) rfl rfl hd
  exact Fx.via stp (g T' h' (w0.wrote hS hk N X' e' Wq S ha) Wq (Safe.wr Wq S w0.chv S))
theorem W.cst (w : W κ l R Z EL own nm mx rt vm T h k n) {a : Addr} {vs : List Int32} (A : Ary Z h a .char vs) {i : Nat} {j x x' : Int32} (hj : j = Int32.ofNat i) (hi : i < vs.length) (hx : nar .char x = x') (hf : fits .char (.int x') = true) (ha : Z.heap.size ≤ a) (hd : decode κ.c.code pc = .ok (.castore, 1))
    (g : ∀ (T' : State) (h' : Heap), W κ l R Z EL own nm mx rt vm T' h' k n → (∃ sl v, Wr h h' a sl v) → Ary Z h' a .char (vs.set i x') → Go κ G T' (pc + 1) Ls st) : Go κ G T pc Ls (.int x :: .int j :: .ref a :: st) := by
  have w0 := w
  have A0 := A
  subst hj hx
  obtain ⟨q1, L, k0, X, e, hS, hk, hZ, ho, N, CC⟩ := w
  obtain ⟨c, A1, r1, r2, -⟩ := A
  obtain ⟨T', h', X', e', Wq, stp⟩ := stC X q1.1 hZ e A1 (Ary.inb r1 r2 hi) (g := mkF κ.m pc Ls (.int x :: .int (Int32.ofNat i) :: .ref a :: st)) rfl rfl hd
  exact Fx.via stp (g T' h' (w0.wrote hS hk N X' e' Wq (A0.safe w0.alike (by decide)) ha) ⟨_, _, Wq⟩ (A0.set hi hf Wq))
theorem W.bst (w : W κ l R Z EL own nm mx rt vm T h k n) {a : Addr} {vs : List Int32} (A : Ary Z h a .byte vs) {i : Nat} {j x x' : Int32} (hj : j = Int32.ofNat i) (hi : i < vs.length) (hx : nar .byte x = x') (hf : fits .byte (.int x') = true) (S : Safe Z EL vm h a) (ha : Z.heap.size ≤ a) (hd : decode κ.c.code pc = .ok (.bastore, 1))
    (g : ∀ (T' : State) (h' : Heap), W κ l R Z EL own nm mx rt vm T' h' k n → (∃ sl v, Wr h h' a sl v) → Ary Z h' a .byte (vs.set i x') → Safe Z EL vm h' a → Go κ G T' (pc + 1) Ls st) : Go κ G T pc Ls (.int x :: .int j :: .ref a :: st) := by
  have w0 := w
  have A0 := A
  subst hj hx
  obtain ⟨q1, L, k0, X, e, hS, hk, hZ, ho, N, CC⟩ := w
  obtain ⟨c, A1, r1, r2, -⟩ := A
  obtain ⟨T', h', X', e', Wq, stp⟩ := stB X q1.1 hZ e A1 (Ary.inb r1 r2 hi) (g := mkF κ.m pc Ls (.int x :: .int (Int32.ofNat i) :: .ref a :: st)) rfl rfl hd
  exact Fx.via stp (g T' h' (w0.wrote hS hk N X' e' Wq S ha) ⟨_, _, Wq⟩ (A0.set hi hf Wq) (Safe.wr Wq S w0.chv S))
theorem W.ist (w : W κ l R Z EL own nm mx rt vm T h k n) {a : Addr} {vs : List Int32} (A : Ary Z h a .int vs) {i : Nat} {j x : Int32} (hj : j = Int32.ofNat i) (hi : i < vs.length) (ha : Z.heap.size ≤ a) (hd : decode κ.c.code pc = .ok (.iastore, 1))
    (g : ∀ (T' : State) (h' : Heap), W κ l R Z EL own nm mx rt vm T' h' k n → (∃ sl v, Wr h h' a sl v) → Ary Z h' a .int (vs.set i x) → Go κ G T' (pc + 1) Ls st) : Go κ G T pc Ls (.int x :: .int j :: .ref a :: st) := by
  have w0 := w
  have A0 := A
  subst hj
  obtain ⟨q1, L, k0, X, e, hS, hk, hZ, ho, N, CC⟩ := w
  obtain ⟨c, A1, r1, r2, -⟩ := A
  obtain ⟨T', h', X', e', Wq, stp⟩ := stI X q1.1 hZ e A1 (Ary.inb r1 r2 hi) (g := mkF κ.m pc Ls (.int x :: .int (Int32.ofNat i) :: .ref a :: st)) rfl rfl hd
  exact Fx.via stp (g T' h' (w0.wrote hS hk N X' e' Wq (A0.safe w0.alike (by decide)) ha) ⟨_, _, Wq⟩ (A0.set hi rfl Wq))
theorem W.len (w : W κ l R Z EL own nm mx rt vm T h k n) {a : Addr} {ty : FieldType} {vs : List Int32} (A : Ary Z h a ty vs) (hd : decode κ.c.code pc = .ok (.arraylength, 1)) (g : Go κ G T (pc + 1) Ls (.int (Int32.ofNat vs.length) :: st)) : Go κ G T pc Ls (.ref a :: st) := by
  obtain ⟨q1, L, k0, X, e, hS, hk, hZ, ho, N, CC⟩ := w
  obtain ⟨c, A1, r1, r2, -⟩ := A
  have hz : c.slots.size = vs.length := by
    have := congrArg List.length r1
    simpa using this
  refine Fx.via (fun t z => X.arraylength q1.1 (cell := c) (by rw [e]; exact A1.1) (State.isArrayOf_alike hZ.alike A1.2.1) (g := mkF κ.m pc Ls (.ref a :: st)) rfl rfl hd t ?_) g
  rw [hz]; exact z
theorem W.cld (w : W κ l R Z EL own nm mx rt vm T h k n) {a : Addr} {vs : List Int32} (A : Ary Z h a .char vs) {i : Nat} {j x : Int32} (hj : j = Int32.ofNat i) (hx : vs[i]? = some x) (hd : decode κ.c.code pc = .ok (.caload, 1)) (g : Go κ G T (pc + 1) Ls (.int x :: st)) : Go κ G T pc Ls (.int j :: .ref a :: st) := by
  subst hj
  obtain ⟨q1, L, k0, X, e, hS, hk, hZ, ho, N, CC⟩ := w
  obtain ⟨c, A1, r1, r2, -⟩ := A
  have hi : i < vs.length := (List.getElem?_eq_some_iff.mp hx).1
  exact Fx.via (fun t z => X.caload q1.1 (cell := c) (by rw [e]; exact A1.1) (State.isArrayOf_alike hZ.alike A1.2.1) A1.2.2 (Ary.inb r1 r2 hi) (Ary.at r1 r2 hi hx) (g := mkF κ.m pc Ls (.int (Int32.ofNat i) :: .ref a :: st)) rfl rfl hd t z) g
theorem W.bld (w : W κ l R Z EL own nm mx rt vm T h k n) {a : Addr} {vs : List Int32} (A : Ary Z h a .byte vs) {i : Nat} {j x : Int32} (hj : j = Int32.ofNat i) (hx : vs[i]? = some x) (hd : decode κ.c.code pc = .ok (.baload, 1)) (g : Go κ G T (pc + 1) Ls (.int x :: st)) : Go κ G T pc Ls (.int j :: .ref a :: st) := by
  subst hj
  obtain ⟨q1, L, k0, X, e, hS, hk, hZ, ho, N, CC⟩ := w
  obtain ⟨c, A1, r1, r2, -⟩ := A
  have hi : i < vs.length := (List.getElem?_eq_some_iff.mp hx).1
  exact Fx.via (fun t z => X.baloadBytes q1.1 (cell := c) (by rw [e]; exact A1.1) (State.isArrayOf_alike hZ.alike A1.2.1) A1.2.2 (Ary.inb r1 r2 hi) (Ary.at r1 r2 hi hx) (g := mkF κ.m pc Ls (.int (Int32.ofNat i) :: .ref a :: st)) rfl rfl hd t z) g
theorem W.ild (w : W κ l R Z EL own nm mx rt vm T h k n) {a : Addr} {vs : List Int32} (A : Ary Z h a .int vs) {i : Nat} {j x : Int32} (hj : j = Int32.ofNat i) (hx : vs[i]? = some x) (hd : decode κ.c.code pc = .ok (.iaload, 1)) (g : Go κ G T (pc + 1) Ls (.int x :: st)) : Go κ G T pc Ls (.int j :: .ref a :: st) := by
  subst hj
  obtain ⟨q1, L, k0, X, e, hS, hk, hZ, ho, N, CC⟩ := w
  obtain ⟨c, A1, r1, r2, -⟩ := A
  have hi : i < vs.length := (List.getElem?_eq_some_iff.mp hx).1
  exact Fx.via (fun t z => X.iaload q1.1 (cell := c) (by rw [e]; exact A1.1) (State.isArrayOf_alike hZ.alike A1.2.1) A1.2.2 (Ary.inb r1 r2 hi) (Ary.at r1 r2 hi hx) (g := mkF κ.m pc Ls (.int (Int32.ofNat i) :: .ref a :: st)) rfl rfl hd t z) g
theorem W.ldcI (w : W κ l R Z EL own nm mx rt vm T h k n) {index : Nat} {v : Int32} (w1 : (Cond.constant own index v).before a0 Z = true) (hd : decode κ.c.code pc = .ok (.ldc index, 2)) (g : Go κ G T (pc + 2) Ls (.int v :: st)) : Go κ G T pc Ls st := by
  obtain ⟨q1, L, k0, X, e, hS, hk, hZ, ho, N, CC⟩ := w
  exact Fx.via (fun t z => Stand.ldcI X q1.1 ho (mv (s := κ.s.setVm vm) hZ w1) (g := mkF κ.m pc Ls st) rfl hd z) g
theorem W.initO (w : W κ l R Z EL own nm mx rt vm T h k n) {idx : Nat} (w1 : (Cond.methodLink own idx Lib.objectInit).before a0 Z = true) (w2 : (Cond.instanceMethod Lib.objectInit).before a0 Z = true) (w3 : (Cond.code Lib.objectInit ⟨#[0xb1]⟩ 1 none).before a0 Z = true) {a : Addr} (hsz : Ls.size = mx) (hd : decode κ.c.code pc = .ok (.invokespecial idx, 3)) (hf : 1 ≤ R.frames) {Wd : Nat} (hW : (st.map fun v => v.category).sum ≤ Wd) (hl : Wd + 12 ≤ R.locals)
    (g : ∀ T' : State, W κ l R Z EL own nm mx rt vm T' h k n → Go κ G T' (pc + 3) Ls st) : Go κ G T pc Ls (.ref a :: st) := by
  obtain ⟨q1, L, k0, X, e, hS, hk, hZ, ho, N, CC⟩ := w
  obtain ⟨T', X', e', stp⟩ := RoadKit.initO X q1.1 hZ ho w1 w2 w3 e (g := mkF κ.m pc Ls (.ref a :: st)) rfl (by rw [q1.2.1]; exact hsz) rfl hd hf (W := Wd) (by show 2 * 0 + _ ≤ _; omega) hl
  exact Fx.via stp (g T' ⟨q1, L, k0, X', e', hS, hk, hZ, ho, N, CC⟩)
/-- what a call asks of its callee -/
abbrev BB (κ : Cx) (l : Launch) (R : Room) (Z : State) (EL : List (String × Nat)) (vm : Vm) (h : Heap) (y : MethodName) (len Wd : Nat) (as' : Array Value) (rc rs : Nat) (Q : Option Value → Heap → (Addr → Prop) → Prop) : Prop :=
  BackS l R κ.p κ.e κ.b (κ.s.setVm vm) κ.a y len Wd (fun A a => a = as' ∧ A.U.heap = h ∧ A.cells + rc ≤ R.cells ∧ A.slots + rs ≤ R.slots)
      (fun A _ v B => ∃ L, (Q v B.U.heap (Safe Z EL B.U.vm B.U.heap) ∧ Fr Z.heap.size L) ∧ B.locs = A.locs ++ L ∧ B.cells = A.cells + rc ∧ B.slots = A.slots + rs ∧ CRn Z EL vm h B.U.vm B.U.heap)
theorem Ctr.pays {y : MethodName} {bytes : ByteArray} {maxL : Nat} {ret : Option FieldType} {rm : Room} {sf : List Addr} {as' : Array Value} {Q : Option Value → Heap → (Addr → Prop) → Prop} {len Wd : Nat} (C : Ctr l Z EL y bytes maxL ret [] rm sf as' h Q) (w : W κ l R Z EL own nm mx rt vm T h k n)
    (wc : (Cond.code y bytes maxL ret).before a0 Z = true) (wz : (Cond.initialized y.cls).before a0 Z = true) (hEL : EW Z a0 EL) (hf : rm.frames + 1 ≤ R.frames) (hl : Wd + (maxL + 11) + rm.locals ≤ R.locals) (hsf : ∀ x ∈ sf, x < h.size ∧ Safe Z EL vm h x) : BB κ l R Z EL vm h y len Wd as' rm.cells rm.slots Q :=
  BackS.of_freeW (bytes := bytes) (maxL := maxL) (ret := ret) (E := fun _ first o t L k n => k = rm.cells ∧ n = rm.slots ∧ (∃ v, o = .returned v ∧ (Q v t.heap (Safe Z EL t.vm t.heap) ∧ Fr Z.heap.size L)) ∧ CRn Z EL first.vm first.heap t.vm t.heap) C hf hl
    (fun m meth c A a Y hp => have hU : Z.Warmed39 A.U.vm := wtrans (s := κ.s.setVm vm) w.warm Y.warmed
      ⟨by show (Cond.and _ .tt).before a A.U = true; rw [Cond.before_and, mv hU wc]; rfl, mv hU wc, mv hU wz, hp.2.2.1, hp.2.2.2⟩)
    (fun m meth c A a g mk Y hp => ⟨hp.1, wtrans (s := κ.s.setVm vm) w.warm Y.warmed, hp.2.1, (CRn.at Y w.warm hEL w.cvn).1, fun x hx => (CRn.at Y w.warm hEL w.cvn).safe (hsf x hx).1 (hsf x hx).2⟩) (fun _ _ _ _ _ _ _ _ _ => trivial)
    (fun _ _ _ _ ⟨v, L, h1, h2, h3, h4⟩ => ⟨L, _, _, h4, rfl, rfl, ⟨v, h1, h2⟩, h3⟩)
    (fun m meth c A a g mk v t L k n Y hp _ _ ⟨e1, e2, ⟨v', e3, e4⟩, e5⟩ => by
      cases e3; subst e1 e2
      refine ⟨L, e4, rfl, rfl, rfl, (CRn.at Y w.warm hEL w.cvn).trans ?_⟩
      rw [← hp.2.1]; exact e5)
theorem sfNil {vm : Vm} {h : Heap} : ∀ x ∈ ([] : List Addr), x < h.size ∧ Safe Z EL vm h x := fun _ q => nomatch q
theorem sfOne {vm : Vm} {h : Heap} {a : Addr} (h1 : a < h.size) (h2 : Safe Z EL vm h a) : ∀ x ∈ [a], x < h.size ∧ Safe Z EL vm h x := fun x q => by rw [List.mem_singleton.mp q]; exact ⟨h1, h2⟩
/-- a narrow payer (it interns nothing, and writes at most ws of what was there) -/
theorem BB.of_back {y : MethodName} {len Wd : Nat} {as' : Array Value} {rc rs : Nat} {Q0 : Option Value → Heap → List Loc → Prop} {Q : Option Value → Heap → (Addr → Prop) → Prop} (w : W κ l R Z EL own nm mx rt vm T h k n) (hEL : EW Z a0 EL)
    (hB : Back l R κ.p κ.e κ.b (κ.s.setVm vm) κ.a y len Wd (fun A a => a = as' ∧ A.U.heap = h ∧ A.cells + rc ≤ R.cells ∧ A.slots + rs ≤ R.slots) (fun A _ v B => ∃ L, Q0 v B.U.heap L ∧ B.locs = A.locs ++ L ∧ B.cells = A.cells + rc ∧ B.slots = A.slots + rs)) {ws : List Addr} (hs : ∀ x ∈ ws, Safe Z EL vm h x)
    (hQ : ∀ v h' L S, Q0 v h' L → Q v h' S ∧ Fr Z.heap.size L ∧ Keep h h' ws) : BB κ l R Z EL vm h y len Wd as' rc rs Q := by
  intro m meth c A g ig mk a X hg hsize hdg hW hn hp
  obtain ⟨v, B, X', ⟨L, h1, h2, h3, h4⟩, hsteps⟩ := hB m meth c A g ig mk a X hg hsize hdg hW hn hp
  obtain ⟨q1, q2, q3⟩ := hQ v B.U.heap L (Safe Z EL B.U.vm B.U.heap) h1
  refine ⟨v, B, X'.retabled X'.warmed.wide, X'.warmed.since _, by rw [hp.2.1]; exact q3.1, ⟨L, ⟨q1, q2⟩, h2, h3, h4, ?_⟩, hsteps⟩
  exact (CRn.keep q3 hs w.cvn).trans (CRn.at X' w.warm hEL (w.cvn.keep q3 hs))
theorem W.back (w : W κ l R Z EL own nm mx rt vm T h k n) {T' : State} {locs L : List Loc} {k' n' : Nat} (hk0 : ∃ k0, κ.s.Since vm k0 ∧ k0 ≤ h.size) (N : Fr Z.heap.size locs) (X' : Stand κ.p l κ.e R ((κ.s.setVm vm).setVm T'.vm) κ.m κ.a κ.b κ.M κ.c T' (locs ++ L) k' n') (hS : (κ.s.setVm vm).Since T'.vm T'.heap.size) (hgr : h.size ≤ T'.heap.size) (NL : Fr Z.heap.size L) (C : CRn Z EL vm h T'.vm T'.heap) : W κ l R Z EL own nm mx rt T'.vm T' T'.heap k' n' := by
  obtain ⟨w1, -, -, -, -, -, -, hZ, ho, -, CC⟩ := w
  obtain ⟨k0, hS0, hk⟩ := hk0
  obtain ⟨Y, hS', hZ', ho'⟩ := rebS (own := own) hS0 hk X' hS hgr hZ ho
  exact ⟨w1, _, _, Y, rfl, hS', Nat.le_refl _, hZ', ho', N.app NL, CC.trans C⟩
theorem W.callS (w : W κ l R Z EL own nm mx rt vm T h k n) {y : MethodName} {bytes : ByteArray} {maxL : Nat} {ret : Option FieldType} {index : Nat} (w1 : (Cond.methodLink own index y).before a0 Z = true) (w2 : (Cond.static y).before a0 Z = true) (w3 : (Cond.initialized y.cls).before a0 Z = true) (w4 : (Cond.code y bytes maxL ret).before a0 Z = true) (hy : y.cls ≠ "java/lang/invoke/MethodHandle" ∧ y.cls ≠ "java/lang/invoke/VarHandle")
    {argsL : List Value} {rc rs Wd : Nat} {Q : Option Value → Heap → (Addr → Prop) → Prop} (hK : BB κ l R Z EL vm h y 3 Wd argsL.toArray rc rs Q) {ps : List FieldType} {r0 : Option FieldType} (hde : parseMethodDescriptor y.desc = some ⟨ps, r0⟩) (hlen : argsL.length = ps.length) {st0 : List Value} (hst : st0 = argsL.reverse ++ st) (hsz : Ls.size = mx) (hW : (st.map fun v => v.category).sum ≤ Wd) (hd : decode κ.c.code pc = .ok (.invokestatic index, 3)) (hc : k + rc ≤ R.cells) (hl : n + rs ≤ R.slots)
    (g : ∀ (vm' : Vm) (T' : State) (h' : Heap) (v : Option Value), W κ l R Z EL own nm mx rt vm' T' h' (k + rc) (n + rs) → CRn Z EL vm h vm' h' → Q v h' (Safe Z EL vm' h') → Go κ G T' (pc + 3) Ls (v.toList ++ st)) : Go κ G T pc Ls st0 := by
  have w0 := w
  subst hst
  obtain ⟨q1, L, k0, X, e, hS, hk, hZ, ho, N, CC⟩ := w
  obtain ⟨v, vm₁, ⟨T', L', k', n'⟩, -, X', hS', hgr, ⟨L2, ⟨hQ, NL⟩, p1, p2, p3, p4⟩, stp⟩ := callSS X q1.1 ho (mvT (s := κ.s.setVm vm) hZ w1) (mvT (s := κ.s.setVm vm) hZ w2) (mvT (s := κ.s.setVm vm) hZ w3) (mvT (s := κ.s.setVm vm) hZ w4) hy hK (g := mkF κ.m pc Ls (argsL.reverse ++ st)) rfl (by rw [q1.2.1]; exact hsz) (argsL := argsL) (rest := st) (lenOf hde hlen) rfl (by show 2 * 0 + _ ≤ _; omega) hd (fun _ _ => ⟨rfl, e, hc, hl⟩)
  dsimp only [Pt.U, Pt.locs, Pt.cells, Pt.slots] at X' hS' hgr hQ p1 p2 p3 p4 stp
  subst p1 p2 p3
  exact Fx.after stp (g T'.vm T' T'.heap v (w0.back ⟨k0, hS, hk⟩ N X' hS' (by rw [← e]; exact hgr) NL p4) p4 hQ)
theorem W.callI (w : W κ l R Z EL own nm mx rt vm T h k n) {y : MethodName} {bytes : ByteArray} {maxL : Nat} {index : Nat} (hy1 : y.name = "<init>") (w1 : (Cond.methodLink own index y).before a0 Z = true) (w2 : (Cond.instanceMethod y).before a0 Z = true) (w4 : (Cond.code y bytes maxL none).before a0 Z = true) (hy : y.cls ≠ "java/lang/invoke/MethodHandle" ∧ y.cls ≠ "java/lang/invoke/VarHandle")
    {a : Addr} {argsL : List Value} {rc rs Wd : Nat} {Q : Option Value → Heap → (Addr → Prop) → Prop} (hK : BB κ l R Z EL vm h y 3 Wd (.ref a :: argsL).toArray rc rs Q) {ps : List FieldType} {r0 : Option FieldType} (hde : parseMethodDescriptor y.desc = some ⟨ps, r0⟩) (hlen : argsL.length = ps.length) {st0 : List Value} (hst : st0 = argsL.reverse ++ .ref a :: st) (hsz : Ls.size = mx) (hW : (st.map fun v => v.category).sum ≤ Wd) (hd : decode κ.c.code pc = .ok (.invokespecial index, 3)) (hc : k + rc ≤ R.cells) (hl : n + rs ≤ R.slots)
    (g : ∀ (vm' : Vm) (T' : State) (h' : Heap) (v : Option Value), W κ l R Z EL own nm mx rt vm' T' h' (k + rc) (n + rs) → CRn Z EL vm h vm' h' → Q v h' (Safe Z EL vm' h') → Go κ G T' (pc + 3) Ls (v.toList ++ st)) : Go κ G T pc Ls st0 := by
  have w0 := w
  subst hst
  obtain ⟨q1, L, k0, X, e, hS, hk, hZ, ho, N, CC⟩ := w
  obtain ⟨v, vm₁, ⟨T', L', k', n'⟩, -, X', hS', hgr, ⟨L2, ⟨hQ, NL⟩, p1, p2, p3, p4⟩, stp⟩ := X.specialBackS q1.1 hy1 ho (mvT (s := κ.s.setVm vm) hZ w1) (mvT (s := κ.s.setVm vm) hZ w2) (mvT (s := κ.s.setVm vm) hZ w4) hy hK (g := mkF κ.m pc Ls (argsL.reverse ++ .ref a :: st)) rfl (by rw [q1.2.1]; exact hsz) (Steps.refl _) (a := a) (argsL := argsL) (rest := st) (lenOf hde hlen) rfl (by show 2 * 0 + _ ≤ _; omega) hd (fun _ _ => ⟨rfl, e, hc, hl⟩)
  dsimp only [Pt.U, Pt.locs, Pt.cells, Pt.slots] at X' hS' hgr hQ p1 p2 p3 p4 stp
  subst p1 p2 p3
  exact Fx.after stp (g T'.vm T' T'.heap v (w0.back ⟨k0, hS, hk⟩ N X' hS' (by rw [← e]; exact hgr) NL p4) p4 hQ)
theorem W.callV (w : W κ l R Z EL own nm mx rt vm T h k n) {y z : MethodName} {C : String} {index : Nat} (w1 : (Cond.methodLink own index y).before a0 Z = true) (w2 : (Cond.declares y).before a0 Z = true) (hnf : ∀ s : State, Z.Warmed39 s.vm → NotFace s y) (w3 : (Cond.selects C y z).before a0 Z = true) (w4 : (Cond.instanceMethod z).before a0 Z = true) (hy : y.cls ≠ "java/lang/invoke/MethodHandle" ∧ y.cls ≠ "java/lang/invoke/VarHandle")
    {a : Addr} (E : Exa Z h a C) {argsL : List Value} {rc rs Wd : Nat} {Q : Option Value → Heap → (Addr → Prop) → Prop} (hK : BB κ l R Z EL vm h z 3 Wd (.ref a :: argsL).toArray rc rs Q) {ps : List FieldType} {r0 : Option FieldType} (hde : parseMethodDescriptor y.desc = some ⟨ps, r0⟩) (hlen : argsL.length = ps.length) {st0 : List Value} (hst : st0 = argsL.reverse ++ .ref a :: st) (hsz : Ls.size = mx) (hW : (st.map fun v => v.category).sum ≤ Wd) (hd : decode κ.c.code pc = .ok (.invokevirtual index, 3)) (hc : k + rc ≤ R.cells) (hl : n + rs ≤ R.slots)
    (g : ∀ (vm' : Vm) (T' : State) (h' : Heap) (v : Option Value), W κ l R Z EL own nm mx rt vm' T' h' (k + rc) (n + rs) → CRn Z EL vm h vm' h' → Q v h' (Safe Z EL vm' h') → Go κ G T' (pc + 3) Ls (v.toList ++ st)) : Go κ G T pc Ls st0 := by
  have w0 := w
  subst hst
  obtain ⟨q1, L, k0, X, e, hS, hk, hZ, ho, N, CC⟩ := w
  obtain ⟨cB, kB, i1, i2, i3⟩ := isOf (s := κ.s.setVm vm) hZ e E
  obtain ⟨v, vm₁, ⟨T', L', k', n'⟩, -, X', hS', hgr, ⟨L2, ⟨hQ, NL⟩, p1, p2, p3, p4⟩, stp⟩ := X.virtualBackS q1.1 ho (mvT (s := κ.s.setVm vm) hZ w1) (mvT (s := κ.s.setVm vm) hZ w2) (hnf (κ.s.setVm vm) hZ) (mvT (s := κ.s.setVm vm) hZ w3) (mvT (s := κ.s.setVm vm) hZ w4) hy hK i1 i3 (g := mkF κ.m pc Ls (argsL.reverse ++ .ref a :: st)) rfl (by rw [q1.2.1]; exact hsz) (Steps.refl _) (argsL := argsL) (rest := st) (lenOf hde hlen) rfl (by show 2 * 0 + _ ≤ _; omega) hd (fun _ _ => ⟨rfl, e, hc, hl⟩)
  dsimp only [Pt.U, Pt.locs, Pt.cells, Pt.slots] at X' hS' hgr hQ p1 p2 p3 p4 stp
  subst p1 p2 p3
  exact Fx.after stp (g T'.vm T' T'.heap v (w0.back ⟨k0, hS, hk⟩ N X' hS' (by rw [← e]; exact hgr) NL p4) p4 hQ)
theorem notFace {y : MethodName} {C : String} (w3 : (Cond.selects C y y).before a0 Z = true) : ∀ s : State, Z.Warmed39 s.vm → NotFace s y := fun s hZ => notFace_of_selects (args := #[]) (mvT hZ w3)
theorem W.instY (w : W κ l R Z EL own nm mx rt vm T h k n) {K : String} {index : Nat} (w1 : (Cond.classLink own index K).before a0 Z = true) {a : Addr} (F : Ins Z h a K true) (hd : decode κ.c.code pc = .ok (.instanceof index, 3))
    (g : ∀ T' : State, W κ l R Z EL own nm mx rt vm T' h k n → Go κ G T' (pc + 3) Ls (.int 1 :: st)) : Go κ G T pc Ls (.ref a :: st) := by
  obtain ⟨q1, L, k0, X, e, hS, hk, hZ, ho, N, CC⟩ := w
  obtain ⟨T', X', e', stp⟩ := RoadKit.instY X q1.1 hZ ho w1 e F (g := mkF κ.m pc Ls (.ref a :: st)) rfl rfl hd
  exact Fx.via stp (g T' ⟨q1, L, k0, X', e', hS, hk, hZ, ho, N, CC⟩)
theorem W.castY (w : W κ l R Z EL own nm mx rt vm T h k n) {K : String} {index : Nat} (w1 : (Cond.classLink own index K).before a0 Z = true) {a : Addr} (F : Ins Z h a K true) (hd : decode κ.c.code pc = .ok (.checkcast index, 3))
    (g : ∀ T' : State, W κ l R Z EL own nm mx rt vm T' h k n → Go κ G T' (pc + 3) Ls (.ref a :: st)) : Go κ G T pc Ls (.ref a :: st) := by
  obtain ⟨q1, L, k0, X, e, hS, hk, hZ, ho, N, CC⟩ := w
  obtain ⟨T', X', e', stp⟩ := RoadKit.castY X q1.1 hZ ho w1 e F (g := mkF κ.m pc Ls (.ref a :: st)) rfl rfl hd
  exact Fx.via stp (g T' ⟨q1, L, k0, X', e', hS, hk, hZ, ho, N, CC⟩)
theorem W.acmp (w : W κ l R Z EL own nm mx rt vm T h k n) {o : Int} {pc' : Nat} {a b : Addr} (hd : decode κ.c.code pc = .ok (.if_acmp .ne o, 3)) (ho : 0 ≤ (pc : Int) + o) (hp : ((pc : Int) + o).toNat = pc') (hT : ¬ a = b → Go κ G T pc' Ls st) (hF : a = b → Go κ G T (pc + 3) Ls st) : Go κ G T pc Ls (.ref b :: .ref a :: st) := by
  obtain ⟨q1, L, k0, X, e, hS, hk, hZ, ho', N, CC⟩ := w
  by_cases q : a = b
  · exact Fx.via (fun t z => RoadKit.acmp X q1.1 rfl (cd := .ne) (x := .ref a) (y := .ref b) rfl rfl (same := true) rfl hd rfl (by simp [q]) ho (pc' := pc + 3) (by simp [acV]) z) (hF q)
  · exact Fx.via (fun t z => RoadKit.acmp X q1.1 rfl (cd := .ne) (x := .ref a) (y := .ref b) rfl rfl (same := false) rfl hd rfl (by simp [q]) ho (pc' := pc') (by simp [acV, hp]) z) (hT q)
theorem W.acmpE (w : W κ l R Z EL own nm mx rt vm T h k n) {o : Int} {pc' : Nat} {a b : Addr} (hd : decode κ.c.code pc = .ok (.if_acmp .eq o, 3)) (ho : 0 ≤ (pc : Int) + o) (hp : ((pc : Int) + o).toNat = pc') (hT : a = b → Go κ G T pc' Ls st) (hF : ¬ a = b → Go κ G T (pc + 3) Ls st) : Go κ G T pc Ls (.ref b :: .ref a :: st) := by
  obtain ⟨q1, L, k0, X, e, hS, hk, hZ, ho', N, CC⟩ := w
  by_cases q : a = b
  · exact Fx.via (fun t z => RoadKit.acmp X q1.1 rfl (cd := .eq) (x := .ref a) (y := .ref b) rfl rfl (same := true) rfl hd rfl (by simp [q]) ho (pc' := pc') (by simp [acV, hp]) z) (hT q)
  · exact Fx.via (fun t z => RoadKit.acmp X q1.1 rfl (cd := .eq) (x := .ref a) (y := .ref b) rfl rfl (same := false) rfl hd rfl (by simp [q]) ho (pc' := pc + 3) (by simp [acV]) z) (hF q)
/-- invokevirtual of a private method -/
theorem W.callP (w : W κ l R Z EL own nm mx rt vm T h k n) {y : MethodName} {bytes : ByteArray} {maxL : Nat} {ret : Option FieldType} {index : Nat} (w1 : (Cond.methodLink own index y).before a0 Z = true) (w2 : (Cond.instanceMethod y).before a0 Z = true) (hnf : ∀ s : State, Z.Warmed39 s.vm → NotFace s y) (w5 : (Cond.privateMethod y).before a0 Z = true) (w4 : (Cond.code y bytes maxL ret).before a0 Z = true) (hy : y.cls ≠ "java/lang/invoke/MethodHandle" ∧ y.cls ≠ "java/lang/invoke/VarHandle")
    {a : Addr} {C : String} (E : Exa Z h a C) {argsL : List Value} {rc rs Wd : Nat} {Q : Option Value → Heap → (Addr → Prop) → Prop} (hK : BB κ l R Z EL vm h y 3 Wd (.ref a :: argsL).toArray rc rs Q) {ps : List FieldType} {r0 : Option FieldType} (hde : parseMethodDescriptor y.desc = some ⟨ps, r0⟩) (hlen : argsL.length = ps.length) {st0 : List Value} (hst : st0 = argsL.reverse ++ .ref a :: st) (hsz : Ls.size = mx) (hW : (st.map fun v => v.category).sum ≤ Wd) (hd : decode κ.c.code pc = .ok (.invokevirtual index, 3)) (hc : k + rc ≤ R.cells) (hl : n + rs ≤ R.slots)
    (g : ∀ (vm' : Vm) (T' : State) (h' : Heap) (v : Option Value), W κ l R Z EL own nm mx rt vm' T' h' (k + rc) (n + rs) → CRn Z EL vm h vm' h' → Q v h' (Safe Z EL vm' h') → Go κ G T' (pc + 3) Ls (v.toList ++ st)) : Go κ G T pc Ls st0 := by
  have w0 := w
  subst hst
  obtain ⟨q1, L, k0, X, e, hS, hk, hZ, ho, N, CC⟩ := w
  obtain ⟨cell, hcell, hob⟩ := E.cell
  have hinst : (Cond.instanceMethod y).before κ.a (κ.s.setVm vm) = true := mvT (s := κ.s.setVm vm) hZ w2
  have hcode : (Cond.code y bytes maxL ret).before κ.a (κ.s.setVm vm) = true := mvT (s := κ.s.setVm vm) hZ w4
  obtain ⟨mk, methM, hnamed, hmethM, hstM, habM⟩ := Cond.instanceMethod_spec hinst
  obtain ⟨methM', cM, hmethM', -, -, -, -, -, -, hsigM⟩ := Cond.code_spec hnamed hcode
  cases hmethM.symm.trans hmethM'
  obtain ⟨kP, hkP, hkPi⟩ := hnf (κ.s.setVm vm) hZ mk hnamed
  have hselP : selectMethod κ.e.platform (κ.s.setVm vm).vm cell.cls mk = .method mk := selectMethod_private hmethM (Cond.privateMethod_at (args := #[]) (mvP (s := κ.s.setVm vm) hZ w5) mk methM hnamed hmethM)
  obtain ⟨vm₁, X₁, hstep₁⟩ := X.invokevirtual q1.1 ho (mvT (s := κ.s.setVm vm) hZ w1) hnamed hmethM hstM hkP hkPi hy (a := a) (cell := cell) (by rw [e]; exact hcell) hob hselP hmethM habM hkP hkPi (g := mkF κ.m pc Ls (argsL.reverse ++ .ref a :: st)) rfl (argsL := argsL) (rest := st) (lenOf hde hlen _ hsigM) rfl hd
  obtain ⟨v, ⟨T', L', k', n'⟩, X', hS', hgr, ⟨L2, ⟨hQ, NL⟩, p1, p2, p3, p4⟩, hsteps⟩ := hK κ.m κ.M κ.c ⟨T.setVm vm₁, L, k, n⟩ (mkF κ.m pc Ls st) (.invokevirtual index) mk (.ref a :: argsL).toArray X₁ rfl (by show Ls.size = _; rw [q1.2.1]; exact hsz) hd (by show 2 * 0 + (st.map fun v => v.category).sum ≤ _; omega) (X₁.named hnamed) ⟨rfl, e, hc, hl⟩
  dsimp only [Pt.U, Pt.locs, Pt.cells, Pt.slots] at X' hS' hgr hQ p1 p2 p3 p4 hsteps
  subst p1 p2 p3
  have stp := (hstep₁ _ fun acts => by rw [doInvoke_state]; exact Steps.refl _).trans hsteps
  exact Fx.after stp (g T'.vm T' T'.heap v (w0.back ⟨k0, hS, hk⟩ N X' hS' (by rw [← e]; exact hgr) NL p4) p4 hQ)
theorem notFaceAs {y y' : MethodName} {C : String} (hc : y.cls = y'.cls) (w3 : (Cond.selects C y' y').before a0 Z = true) (w4 : (Cond.instanceMethod y').before a0 Z = true) : ∀ s : State, Z.Warmed39 s.vm → NotFace s y := fun s hZ r0 h0 => by
  have hi : (Cond.instanceMethod y').before #[] s = true := mvT hZ w4
  obtain ⟨mk, methM, hnamed, -⟩ := Cond.instanceMethod_spec hi
  obtain ⟨kr, h1, h2⟩ := notFace (a0 := a0) w3 s hZ mk hnamed
  have e1 := findClass_of_methodNamed h0
  have e2 := findClass_of_methodNamed hnamed
  rw [hc] at e1
  have e3 := Option.some.inj (e1.symm.trans e2)
  exact ⟨kr, by rw [e3]; exact h1, h2⟩
/-- invokevirtual of a method that a superclass declares -/
theorem W.callUp (w : W κ l R Z EL own nm mx rt vm T h k n) {y z : MethodName} {C owner : String} {index : Nat} (w1 : (Cond.methodLink own index y).before a0 Z = true) (w2 : (Cond.sameMethod y.cls owner y.name y.desc).before a0 Z = true) (w3 : (Cond.declares ⟨owner, y.name, y.desc⟩).before a0 Z = true) (hy : owner ≠ "java/lang/invoke/MethodHandle" ∧ owner ≠ "java/lang/invoke/VarHandle") (w4 : (Cond.selects C y z).before a0 Z = true) (w5 : (Cond.instanceMethod z).before a0 Z = true)
    {a : Addr} (E : Exa Z h a C) {argsL : List Value} {rc rs Wd : Nat} {Q : Option Value → Heap → (Addr → Prop) → Prop} (hK : BB κ l R Z EL vm h z 3 Wd (.ref a :: argsL).toArray rc rs Q) {ps : List FieldType} {r0 : Option FieldType} (hde : parseMethodDescriptor y.desc = some ⟨ps, r0⟩) (hlen : argsL.length = ps.length) {st0 : List Value} (hst : st0 = argsL.reverse ++ .ref a :: st) (hsz : Ls.size = mx) (hW : (st.map fun v => v.category).sum ≤ Wd) (hd : decode κ.c.code pc = .ok (.invokevirtual index, 3)) (hc : k + rc ≤ R.cells) (hl : n + rs ≤ R.slots)
    (g : ∀ (vm' : Vm) (T' : State) (h' : Heap) (v : Option Value), W κ l R Z EL own nm mx rt vm' T' h' (k + rc) (n + rs) → CRn Z EL vm h vm' h' → Q v h' (Safe Z EL vm' h') → Go κ G T' (pc + 3) Ls (v.toList ++ st)) : Go κ G T pc Ls st0 := by
  have w0 := w
  subst hst
  obtain ⟨q1, L, k0, X, e, hS, hk, hZ, ho, N, CC⟩ := w
  obtain ⟨cB, kB, i1, i2, i3⟩ := isOf (s := κ.s.setVm vm) hZ e E
  obtain ⟨v, vm₁, ⟨T', L', k', n'⟩, -, X', hS', hgr, ⟨L2, ⟨hQ, NL⟩, p1, p2, p3, p4⟩, stp⟩ := X.virtualBackUpS q1.1 ho (mvT (s := κ.s.setVm vm) hZ w1) (mvT (s := κ.s.setVm vm) hZ w2) (mvT (s := κ.s.setVm vm) hZ w3) hy (mvT (s := κ.s.setVm vm) hZ w4) (mvT (s := κ.s.setVm vm) hZ w5) hK i1 i3 (g := mkF κ.m pc Ls (argsL.reverse ++ .ref a :: st)) rfl (by rw [q1.2.1]; exact hsz) (Steps.refl _) (argsL := argsL) (rest := st) (lenOf hde hlen) rfl (by show 2 * 0 + _ ≤ _; omega) hd (fun _ _ => ⟨rfl, e, hc, hl⟩)
  dsimp only [Pt.U, Pt.locs, Pt.cells, Pt.slots] at X' hS' hgr hQ p1 p2 p3 p4 stp
  subst p1 p2 p3
  exact Fx.after stp (g T'.vm T' T'.heap v (w0.back ⟨k0, hS, hk⟩ N X' hS' (by rw [← e]; exact hgr) NL p4) p4 hQ)
theorem W.instNo (w : W κ l R Z EL own nm mx rt vm T h k n) {K C : String} {index : Nat} (w1 : (Cond.classLink own index K).before a0 Z = true) {a : Addr} (E : Exa Z h a C) (F : ∃ c t, Z.vm.findClass C = some c ∧ Z.vm.findClass K = some t ∧ Z.vm.assignable c t = false) (hd : decode κ.c.code pc = .ok (.instanceof index, 3))
    (g : ∀ T' : State, W κ l R Z EL own nm mx rt vm T' h k n → Go κ G T' (pc + 3) Ls (.int 0 :: st)) : Go κ G T pc Ls (.ref a :: st) := by
  obtain ⟨q1, L, k0, X, e, hS, hk, hZ, ho, N, CC⟩ := w
  obtain ⟨T', X', e', stp⟩ := RoadKit.instNo X q1.1 hZ ho w1 e E F (g := mkF κ.m pc Ls (.ref a :: st)) rfl rfl hd
  exact Fx.via stp (g T' ⟨q1, L, k0, X', e', hS, hk, hZ, ho, N, CC⟩)
theorem W.instNull (w : W κ l R Z EL own nm mx rt vm T h k n) {index : Nat} (hd : decode κ.c.code pc = .ok (.instanceof index, 3)) (g : Go κ G T (pc + 3) Ls (.int 0 :: st)) : Go κ G T pc Ls (.null :: st) := by
  obtain ⟨q1, L, k0, X, -⟩ := w
  exact Fx.via (Stand.instanceofNull X q1.1 (g := mkF κ.m pc Ls (.null :: st)) rfl rfl hd) g
theorem W.lsw (w : W κ l R Z EL own nm mx rt vm T h k n) {x : Int32} {dflt : Int} {pairs : Array (Int × Int)} {len : Nat} {pc' : Nat} (hd : decode κ.c.code pc = .ok (.lookupswitch dflt pairs, len)) (hso : (pairs.toList.zip (pairs.toList.drop 1)).all (fun (a, next) => a.1 < next.1) = true) {p : Int × Int} (hf : pairs.find? (·.1 == x.toInt) = some p) (ho : 0 ≤ (pc : Int) + p.2) (hp : ((pc : Int) + p.2).toNat = pc') (g : Go κ G T pc' Ls st) : Go κ G T pc Ls (.int x :: st) := by
  obtain ⟨q1, L, k0, X, -⟩ := w
  subst hp
  obtain ⟨p1, p2⟩ := p
  exact Fx.via (fun t z => Stand.lookupswitchHit X q1.1 (g := mkF κ.m pc Ls (.int x :: st)) rfl rfl hd hso hf ho t z) g
/-- the end -/
theorem W.ends (w : W κ l R Z EL own nm mx rt vm T h k n) {Q : Option Value → Heap → (Addr → Prop) → Prop} {v : Option Value} (hv : κ.M.sig.returnType = none → v = none) (hc : k ≤ R.cells) (hl : n ≤ R.slots) (hQ : ∀ S : Addr → Prop, (∀ x, x < h.size → Safe Z EL vm h x → S x) → Q v h S) {A : State}
    (hs : ∀ fs, (∀ (f : JFrame) (acts : List Action), f.method = κ.m → f.locked = none → f.entered = [] → (doReturn κ.e (T.setTop f) acts v).1 = T.setFrames fs) → Steps κ.p.tables κ.e κ.b A (T.setFrames fs)) : Fx κ (GQ κ Z EL R Q) A := by
  have w0 := w
  obtain ⟨q1, L, k0, X, e, hS, hk, hZ, ho, N, CC⟩ := w
  obtain ⟨a0, hEL⟩ := q1.2.2.2.2.2
  obtain ⟨fs, h1, h2, h3, h4⟩ := Stand.leaveW (s := κ.s) X hS (by rw [e]; exact hk) hv q1.2.2.2.1
  refine ⟨v, T.setFrames fs, hs fs h1, h2, h3, L, ⟨?_, N⟩, ?_, h4.1, h4.2.1, h4.2.2.1, h4.2.2.2.mono hc hl⟩
  · show Q v T.heap (Safe Z EL T.vm T.heap)
    rw [e]; exact hQ _ fun x hx S => (CRn.at X hZ hEL CC.1).safe hx S
  · have := CC.trans (CRn.at X hZ hEL CC.1)
    show CRn Z EL κ.s.vm κ.s.heap T.vm T.heap
    rw [e]; exact this
theorem W.retV (w : W κ l R Z EL own nm mx none vm T h k n) {Q : Option Value → Heap → (Addr → Prop) → Prop} (hd : decode κ.c.code pc = .ok (.return_, 1)) (hc : k ≤ R.cells) (hl : n ≤ R.slots) (hQ : ∀ S : Addr → Prop, (∀ x, x < h.size → Safe Z EL vm h x → S x) → Q none h S) : Go κ (GQ κ Z EL R Q) T pc Ls [] := by
  have w0 := w
  obtain ⟨q1, L, k0, X, -⟩ := w
  exact w0.ends (fun _ => rfl) hc hl hQ fun fs hr => X.returnOut q1.1 q1.2.2.1 hd hr
theorem W.retI (w : W κ l R Z EL own nm mx rt vm T h k n) {t : FieldType} (ht : rt = some t) (htk : t = .int ∨ t = .boolean ∨ t = .byte ∨ t = .char ∨ t = .short) {Q : Option Value → Heap → (Addr → Prop) → Prop} {z : Int32} (hn : narrow t (.int z) = .int z) (hd : decode κ.c.code pc = .ok (.ireturn, 1)) (hc : k ≤ R.cells) (hl : n ≤ R.slots) (hQ : ∀ S : Addr → Prop, (∀ x, x < h.size → Safe Z EL vm h x → S x) → Q (some (.int z)) h S) : Go κ (GQ κ Z EL R Q) T pc Ls (.int z :: st) := by
  have w0 := w
  obtain ⟨q1, L, k0, X, -⟩ := w
  subst ht
  exact w0.ends (fun q => by rw [q1.2.2.1] at q; cases q) hc hl hQ fun fs hr => retOut X q1.1 q1.2.2.1 hn (Or.inl ⟨rfl, htk, z, rfl⟩) hd hr
theorem W.retA (w : W κ l R Z EL own nm mx rt vm T h k n) {t : FieldType} (ht : rt = some t) (htk : t.isReference = true) {Q : Option Value → Heap → (Addr → Prop) → Prop} {v : Value} (hvr : v.isRef = true) (hn : narrow t v = v) (hd : decode κ.c.code pc = .ok (.areturn, 1)) (hc : k ≤ R.cells) (hl : n ≤ R.slots) (hQ : ∀ S : Addr → Prop, (∀ x, x < h.size → Safe Z EL vm h x → S x) → Q (some v) h S) : Go κ (GQ κ Z EL R Q) T pc Ls (v :: st) := by
  have w0 := w
  obtain ⟨q1, L, k0, X, -⟩ := w
  subst ht
  exact w0.ends (fun q => by rw [q1.2.2.1] at q; cases q) hc hl hQ fun fs hr => retOut X q1.1 q1.2.2.1 hn (Or.inr (Or.inr (Or.inr (Or.inr ⟨rfl, htk, hvr⟩)))) hd hr
end Laws
end Jvm.WK
namespace Jvm.WK
open Sem ClassFile Op Lib Jvm.Stand Jvm.Free Jvm.LawKit Jvm.RoadKit Bundle
/-! WK3: Strings, plainly -/
abbrev ST : String := "java/lang/String"
def lo8 (x : Int32) : Int32 := x.toInt8.toInt32
def hi8 (x : Int32) : Int32 := (x >>> ((8 : Int32) &&& 31)).toInt8.toInt32
def lo0 (x : Int32) : Int32 := (x >>> ((0 : Int32) &&& 31)).toInt8.toInt32
def IsC (cs : List Int32) : Prop := ∀ c ∈ cs, ¬ c < 0 ∧ ¬ 65535 < c
def IsL (cs : List Int32) : Prop := ∀ c ∈ cs, ¬ c < 0 ∧ ¬ 255 < c
theorem IsL.isC {cs : List Int32} (h : IsL cs) : IsC cs := fun c hc => ⟨(h c hc).1, fun q => (h c hc).2 (by
  rw [Int32.lt_iff_toInt_lt] at q ⊢
  have e1 : (65535 : Int32).toInt = 65535 := by decide
  have e2 : (255 : Int32).toInt = 255 := by decide
  omega)⟩
def u16 : List Int32 → List Int32
  | [] => []
  | c :: cs => lo0 c :: hi8 c :: u16 cs
theorem u16_len : ∀ cs : List Int32, (u16 cs).length = 2 * cs.length
  | [] => rfl
  | c :: cs => by simp only [u16, List.length_cons, u16_len cs]; omega
theorem u16_app : ∀ a b : List Int32, u16 (a ++ b) = u16 a ++ u16 b
  | [], b => rfl
  | c :: cs, b => by simp only [List.cons_append, u16, u16_app cs b]
theorem u16_at : ∀ (cs : List Int32) (i : Nat) (c : Int32), cs[i]? = some c → (u16 cs)[2 * i]? = some (lo0 c) ∧ (u16 cs)[2 * i + 1]? = some (hi8 c)
  | [], i, c, h => by simp at h
  | d :: cs, 0, c, h => by
    have e : d = c := by simpa using h
    subst e
    exact ⟨rfl, rfl⟩
  | d :: cs, i + 1, c, h => by
    have h' : cs[i]? = some c := by simpa using h
    obtain ⟨h1, h2⟩ := u16_at cs i c h'
    have e1 : 2 * (i + 1) = 2 * i + 1 + 1 := by omega
    have e2 : 2 * (i + 1) + 1 = 2 * i + 1 + 1 + 1 := by omega
    rw [e1]
    exact ⟨by simpa [u16] using h1, by simpa [u16] using h2⟩
theorem ofNat_toInt {i : Nat} (h : i < 2147483648) : (Int32.ofNat i).toInt = (i : Int) := Int32.toInt_ofNat_small (by omega)
theorem ofNat_add {i j : Nat} : Int32.ofNat i + Int32.ofNat j = Int32.ofNat (i + j) := (Int32.ofNat_add i j).symm
theorem ofNat_succ {i : Nat} : Int32.ofNat i + (1 : Int32) = Int32.ofNat (i + 1) := (Int32.ofNat_add i 1).symm
theorem ofNat_lt {i j : Nat} (hi : i < 2147483648) (hj : j < 2147483648) : Int32.ofNat i < Int32.ofNat j ↔ i < j := by
  rw [Int32.lt_iff_toInt_lt, ofNat_toInt hi, ofNat_toInt hj]; omega
theorem ofNat_inj {i j : Nat} (hi : i < 2147483648) (hj : j < 2147483648) : Int32.ofNat i = Int32.ofNat j ↔ i = j := by
  rw [← Int32.toInt_inj, ofNat_toInt hi, ofNat_toInt hj]; omega
theorem ofNat_dbl {i : Nat} (h : i < 1073741824) : Int32.ofNat i <<< ((1 : Int32) &&& 31) = Int32.ofNat (2 * i) := by
  rw [← Int32.toInt_inj, ofNat_toInt (by omega)]
  have h1 := c_ishl (Int32.ofNat i) 1 1 (by decide)
  rw [ofNat_toInt (by omega)] at h1
  have h2 := rng32 (Int32.ofNat i <<< ((1 : Int32) &&& 31))
  push_cast at h1 ⊢
  omega
theorem ofNat_half {i : Nat} (h : 2 * i < 2147483648) : Int32.ofNat (2 * i) >>> ((1 : Int32) &&& 31) = Int32.ofNat i := by
  rw [← Int32.toInt_inj, ofNat_toInt (by omega), c_ishr _ 1 1 (by decide), ofNat_toInt (by omega)]
  push_cast
  omega
theorem shr0 (x : Int32) : x >>> ((0 : Int32) &&& 31) = x := by
  rw [← Int32.toInt_inj, c_ishr _ 0 0 (by decide)]
  simp
theorem fits_lo8 (x : Int32) : fits .byte (.int (lo8 x)) = true := Jvm.Free.SBG.fits_of_int8 _
theorem fits_i2b (x : Int32) : fits .byte (.int x.toInt8.toInt32) = true := Jvm.Free.SBG.fits_of_int8 _
theorem nar_i2b (x : Int32) : nar .byte x.toInt8.toInt32 = x.toInt8.toInt32 := by simp [nar]
theorem fits_i2c (x : Int32) : fits .char (.int x.toUInt32.toUInt16.toUInt32.toInt32) = true := by
  have h := c_i2c x
  have e1 : (0 : Int32).toInt = 0 := by decide
  have e2 : (65535 : Int32).toInt = 65535 := by decide
  simp only [fits, Bool.and_eq_true, decide_eq_true_eq, Int32.le_iff_toInt_le, e1, e2]
  omega
theorem nar_i2c (x : Int32) : nar .char x.toUInt32.toUInt16.toUInt32.toInt32 = x.toUInt32.toUInt16.toUInt32.toInt32 := by
  simp only [nar, UInt32.toUInt32_toInt32, UInt16.toUInt16_toUInt32]
theorem char_of {x : Int32} (h0 : ¬ x < 0) (h1 : ¬ 65535 < x) : x.toUInt32.toUInt16.toUInt32.toInt32 = x := by
  rw [← Int32.toInt_inj]
  have h := c_i2c x
  rw [Int32.lt_iff_toInt_lt] at h0 h1
  have e1 : (0 : Int32).toInt = 0 := by decide
  have e2 : (65535 : Int32).toInt = 65535 := by decide
  omega
theorem narrow_char {x : Int32} (h0 : ¬ x < 0) (h1 : ¬ 65535 < x) : narrow .char (.int x) = .int x := by
  have := char_of h0 h1
  show Value.int x.toUInt32.toUInt16.toUInt32.toInt32 = _
  rw [this]
theorem lo8_and {x : Int32} (h0 : ¬ x < 0) (h1 : ¬ 255 < x) : lo8 x &&& (255 : Int32) = x := by
  rw [← Int32.toInt_inj, c_mask _ 255 8 (by decide) (by decide)]
  have h := c_i2b x
  rw [Int32.lt_iff_toInt_lt] at h0 h1
  have e1 : (0 : Int32).toInt = 0 := by decide
  have e2 : (255 : Int32).toInt = 255 := by decide
  unfold lo8
  omega
theorem lo8_inj {x y : Int32} (h0 : ¬ x < 0) (h1 : ¬ 255 < x) (g0 : ¬ y < 0) (g1 : ¬ 255 < y) (e : lo8 x = lo8 y) : x = y := by
  rw [← lo8_and h0 h1, ← lo8_and g0 g1, e]
theorem getc {c : Int32} (h0 : ¬ c < 0) (h1 : ¬ 65535 < c) : (((lo0 c &&& (255 : Int32)) <<< ((0 : Int32) &&& 31)) ||| ((hi8 c &&& (255 : Int32)) <<< ((8 : Int32) &&& 31))).toUInt32.toUInt16.toUInt32.toInt32 = c := by
  rw [← Int32.toInt_inj]
  rw [Int32.lt_iff_toInt_lt] at h0 h1
  have e1 : (0 : Int32).toInt = 0 := by decide
  have e2 : (65535 : Int32).toInt = 65535 := by decide
  have a0 := c_ishr c 0 0 (by decide)
  have a1 := c_i2b (c >>> ((0 : Int32) &&& 31))
  have a2 := c_mask (lo0 c) 255 8 (by decide) (by decide)
  have a3 := c_ishl (lo0 c &&& 255) 0 0 (by decide)
  have a4 := rng32 ((lo0 c &&& (255 : Int32)) <<< ((0 : Int32) &&& 31))
  have b0 := c_ishr c 8 8 (by decide)
  have b1 := c_i2b (c >>> ((8 : Int32) &&& 31))
  have b2 := c_mask (hi8 c) 255 8 (by decide) (by decide)
  have b3 := c_ishl (hi8 c &&& 255) 8 8 (by decide)
  have b4 := rng32 ((hi8 c &&& (255 : Int32)) <<< ((8 : Int32) &&& 31))
  have cc := c_or' ((lo0 c &&& (255 : Int32)) <<< ((0 : Int32) &&& 31)) ((hi8 c &&& (255 : Int32)) <<< ((8 : Int32) &&& 31)) 8 (by decide) 256 (by decide)
  have dd := c_i2c (((lo0 c &&& (255 : Int32)) <<< ((0 : Int32) &&& 31)) ||| ((hi8 c &&& (255 : Int32)) <<< ((8 : Int32) &&& 31)))
  have ee := rng32 (((lo0 c &&& (255 : Int32)) <<< ((0 : Int32) &&& 31)) ||| ((hi8 c &&& (255 : Int32)) <<< ((8 : Int32) &&& 31)))
  unfold lo0 hi8 at *
  generalize (c >>> ((0 : Int32) &&& 31)).toInt8.toInt32 = x0 at *
  generalize (c >>> ((8 : Int32) &&& 31)).toInt8.toInt32 = x1 at *
  generalize (x0 &&& (255 : Int32)) <<< ((0 : Int32) &&& 31) = y0 at *
  generalize (x1 &&& (255 : Int32)) <<< ((8 : Int32) &&& 31) = y1 at *
  generalize (y0 ||| y1).toUInt32.toUInt16.toUInt32.toInt32 = z at *
  have c2 : y1.toInt % 256 = 0 := by omega
  have c3 : 0 ≤ y0.toInt := by omega
  have c4 : y0.toInt < 256 := by omega
  have cc := cc c2 c3 c4
  omega
theorem set_map {pre : List Int32} {k : Nat} {a : Int32} (f : Int32 → Int32) : (pre.map f ++ List.replicate (k + 1) (0 : Int32)).set pre.length a = pre.map f ++ a :: List.replicate k 0 := by
  rw [List.set_append_right _ _ (by simp)]
  simp [List.replicate_succ]
theorem set_u16 {pre : List Int32} {k : Nat} {a b : Int32} : ((u16 pre ++ List.replicate (2 * (k + 1)) (0 : Int32)).set (2 * pre.length) a).set (2 * pre.length + 1) b = u16 pre ++ a :: b :: List.replicate (2 * k) 0 := by
  have e : 2 * (k + 1) = 2 * k + 1 + 1 := by omega
  rw [e, List.replicate_succ, List.replicate_succ, List.set_append_right _ _ (by rw [u16_len]; omega)]
  rw [u16_len, Nat.sub_self, List.set_cons_zero, List.set_append_right _ _ (by rw [u16_len]; omega), u16_len]
  have e2 : 2 * pre.length + 1 - 2 * pre.length = 0 + 1 := by omega
  rw [e2, List.set_cons_succ, List.set_cons_zero]
theorem take_succ {cs : List Int32} {i : Nat} {c : Int32} (h : cs[i]? = some c) : cs.take (i + 1) = cs.take i ++ [c] := by
  rw [List.take_add_one, h]; rfl
/-- a String that spells cs -/
def Str (Z : State) (h : Heap) (a : Addr) (cs : List Int32) : Prop :=
  ∃ b, Exa Z h a ST ∧ Fld Z h a ST "value" "[B" (.ref b) ∧ IsC cs ∧ cs.length < 1073741824 ∧
    ((IsL cs ∧ Fld Z h a ST "coder" "B" (.int 0) ∧ Ary Z h b .byte (cs.map lo8)) ∨ (¬ IsL cs ∧ Fld Z h a ST "coder" "B" (.int 1) ∧ Ary Z h b .byte (u16 cs)))
section StrFacts
variable {Z : State} {h h' : Heap} {a : Addr} {cs : List Int32} {ws : List Addr}
theorem Str.ext (E : Ext h h') (F : Str Z h a cs) : Str Z h' a cs := by
  obtain ⟨b, f1, f2, f3, f4, f5⟩ := F
  exact ⟨b, f1.ext E, f2.ext E, f3, f4, f5.imp (fun q => ⟨q.1, q.2.1.ext E, q.2.2.ext E⟩) (fun q => ⟨q.1, q.2.1.ext E, q.2.2.ext E⟩)⟩
theorem Str.exa (F : Str Z h a cs) : Exa Z h a ST := by obtain ⟨b, f1, -⟩ := F; exact f1
theorem Str.lt (F : Str Z h a cs) : a < h.size := F.exa.lt
theorem Str.isC (F : Str Z h a cs) : IsC cs := by obtain ⟨b, f1, f2, f3, -⟩ := F; exact f3
theorem Keep.toExt (K : Keep h h' []) : Ext h h' := ⟨K.1, fun x c q => K.2.1 x c q nin0⟩
/-- kept where all that was written is new (at or above h.size) -/
theorem Str.keepNew {h0 : Heap} (K : Keep h0 h' ws) (F : Str Z h0 a cs) (hw : ∀ x ∈ ws, h0.size ≤ x) : Str Z h' a cs :=
  F.ext ⟨K.1, fun x c q => K.2.1 x c q fun hm => absurd (Array.getElem?_eq_some_iff.mp q).1 (Nat.not_lt.mpr (hw x hm))⟩
end StrFacts
end Jvm.WK
namespace Jvm.WK
open Sem ClassFile Op Lib Jvm.Stand Jvm.Free Jvm.LawKit Jvm.RoadKit Bundle
section StrMore
variable {Z : State} {h h' : Heap} {a b x y : Addr} {cs ds : List Int32} {ws : List Addr} {a0 : Array Value}
theorem Ary.ne_exa {C : String} {kk : Nat} {ty : FieldType} {vs : List Int32} (F : Ary Z h y ty vs) (E : Exa Z h x C) (wi : (Cond.instantiable C kk).before a0 Z = true) : y ≠ x := by
  obtain ⟨c, A, -⟩ := F; exact fun e => ne_arr E wi A e.symm
theorem Ary.inj {ty : FieldType} {us vs : List Int32} (F : Ary Z h a ty us) (G : Ary Z h a ty vs) : us = vs := by
  obtain ⟨c, A, r1, -⟩ := F
  obtain ⟨c', A', r1', -⟩ := G
  cases A.1.symm.trans A'.1
  have := r1.symm.trans r1'
  exact (List.map_inj_right (fun x y q => by cases q; rfl)).mp this
theorem Ary.isC (F : Ary Z h a .char cs) : IsC cs := fun c hc => by
  have := F.fit c hc
  exact rng_char this
theorem Fld.inj {C n d : String} {v w : Value} (F : Fld Z h a C n d v) (G : Fld Z h a C n d w) : v = w := Classical.byContradiction fun q => F.ne G q rfl
theorem lo8_list : ∀ {cs ds : List Int32}, IsL cs → IsL ds → cs.map lo8 = ds.map lo8 → cs = ds
  | [], [], _, _, _ => rfl
  | [], d :: ds, _, _, h => by simp at h
  | c :: cs, [], _, _, h => by simp at h
  | c :: cs, d :: ds, h1, h2, h => by
    simp only [List.map_cons, List.cons.injEq] at h
    have e1 := lo8_inj (h1 c (List.mem_cons_self ..)).1 (h1 c (List.mem_cons_self ..)).2 (h2 d (List.mem_cons_self ..)).1 (h2 d (List.mem_cons_self ..)).2 h.1
    have e2 := lo8_list (fun x hx => h1 x (List.mem_cons_of_mem _ hx)) (fun x hx => h2 x (List.mem_cons_of_mem _ hx)) h.2
    rw [e1, e2]
theorem Str.lat (F : Str Z h a cs) (hL : IsL cs) : ∃ b, Fld Z h a ST "value" "[B" (.ref b) ∧ Fld Z h a ST "coder" "B" (.int 0) ∧ Ary Z h b .byte (cs.map lo8) := by
  obtain ⟨b, f1, f2, f3, f4, f5 | f5⟩ := F
  · exact ⟨b, f2, f5.2⟩
  · exact absurd hL f5.1
theorem Str.inj (F : Str Z h a cs) (G : Str Z h a ds) (hc : IsL cs) (hd : IsL ds) : cs = ds := by
  obtain ⟨b, f1, f2, f3⟩ := F.lat hc
  obtain ⟨b', g1, g2, g3⟩ := G.lat hd
  have := Fld.inj f1 g1
  cases this
  exact lo8_list hc hd (f3.inj g3)
theorem Str.len_lt (F : Str Z h a cs) : cs.length < 1073741824 := by obtain ⟨b, f1, f2, f3, f4, -⟩ := F; exact f4
theorem cod0 {n : Nat} : (((Int32.ofNat n - Int32.ofNat n).toUInt32 >>> ((31 : Int32) &&& 31).toUInt32).toInt32).toInt8.toInt32 = 0 := by
  rw [Int32.sub_self]; decide
theorem cod1 {n : Nat} (h0 : 0 < n) (h : 2 * n < 2147483648) : (((Int32.ofNat n - Int32.ofNat (2 * n)).toUInt32 >>> ((31 : Int32) &&& 31).toUInt32).toInt32).toInt8.toInt32 = 1 := by
  have e : ((Int32.ofNat n - Int32.ofNat (2 * n)).toUInt32 >>> ((31 : Int32) &&& 31).toUInt32).toInt32 = 1 := by
    rw [← Int32.toInt_inj, c_iushr _ 31 31 (by decide) (by decide)]
    have h1 := c_isub (Int32.ofNat n) (Int32.ofNat (2 * n))
    rw [ofNat_toInt (by omega), ofNat_toInt (by omega)] at h1
    have h2 := rng32 (Int32.ofNat n - Int32.ofNat (2 * n))
    have h3 : (1 : Int32).toInt = 1 := by decide
    rw [h3]
    omega
  rw [e]; decide
theorem isL_of {cs : List Int32} (hc : IsC cs) (h : ∀ i c, i < cs.length → cs[i]? = some c → ¬ 255 < c) : IsL cs := fun c hm => by
  obtain ⟨i, hi, rfl⟩ := List.getElem_of_mem hm
  exact ⟨(hc _ hm).1, h i _ hi (List.getElem?_eq_getElem hi)⟩
theorem not_isL {cs : List Int32} {i : Nat} {c : Int32} (h : cs[i]? = some c) (q : 255 < c) : ¬ IsL cs := fun hl => (hl c (List.mem_of_getElem? h)).2 q
end StrMore
end Jvm.WK
namespace Jvm.WK
open Sem ClassFile Op Lib Jvm.Stand Jvm.Free Jvm.LawKit Jvm.RoadKit Bundle
theorem fitsCh {x : Int32} (h0 : ¬ x < 0) (h1 : ¬ 65535 < x) : fits .char (.int x) = true := by
  have := fits_i2c x
  rw [char_of h0 h1] at this; exact this
theorem narCh {x : Int32} (h0 : ¬ x < 0) (h1 : ¬ 65535 < x) : nar .char x = x := char_of h0 h1
theorem and255 (x : Int32) : ¬ (x &&& (255 : Int32)).toUInt32.toUInt16.toUInt32.toInt32 < 0 ∧ ¬ 255 < (x &&& (255 : Int32)).toUInt32.toUInt16.toUInt32.toInt32 := by
  have h1 := c_and x 255 (by decide)
  have h2 := c_i2c (x &&& 255)
  have h3 : (255 : Int32).toInt = 255 := by decide
  have h4 : (0 : Int32).toInt = 0 := by decide
  rw [Int32.lt_iff_toInt_lt, Int32.lt_iff_toInt_lt]
  omega
theorem and255' (x : Int32) : ¬ (x &&& (255 : Int32)) < 0 ∧ ¬ 255 < (x &&& (255 : Int32)) := by
  have h1 := c_and x 255 (by decide)
  have h3 : (255 : Int32).toInt = 255 := by decide
  have h4 : (0 : Int32).toInt = 0 := by decide
  rw [Int32.lt_iff_toInt_lt, Int32.lt_iff_toInt_lt]
  omega
theorem i2c_bounds (x : Int32) : ¬ x.toUInt32.toUInt16.toUInt32.toInt32 < 0 ∧ ¬ 65535 < x.toUInt32.toUInt16.toUInt32.toInt32 := by
  have h2 := c_i2c x
  have h3 : (65535 : Int32).toInt = 65535 := by decide
  have h4 : (0 : Int32).toInt = 0 := by decide
  rw [Int32.lt_iff_toInt_lt, Int32.lt_iff_toInt_lt]
  omega
theorem le255 {x : Int32} (h : ¬ 255 < x) : ¬ 65535 < x := by
  have h3 : (65535 : Int32).toInt = 65535 := by decide
  have h4 : (255 : Int32).toInt = 255 := by decide
  rw [Int32.lt_iff_toInt_lt] at h ⊢
  omega
/-- a remainder of a masked int is a small number -/
theorem remNat (x q m : Int32) (n : Nat) (hq : 0 ≤ q.toInt) (hm : m.toInt = n) (h0 : 0 < n) : ∃ k, k < n ∧ (x &&& q) % m = Int32.ofNat k := by
  have h1 := c_and x q hq
  have h2 := (c_irem (x &&& q) m n hm).1 h1.1
  have h3 := Int.emod_nonneg (x &&& q).toInt (show (n : Int) ≠ 0 by omega)
  have h4 := Int.emod_lt_of_pos (x &&& q).toInt (show (0 : Int) < n by omega)
  have h5 := rng32 m
  refine ⟨((x &&& q).toInt % n).toNat, by omega, ?_⟩
  rw [← Int32.toInt_inj, h2, ofNat_toInt (by omega)]
  omega
/-- an int masked by a small constant is a small number -/
theorem andNat (x m : Int32) (n : Nat) (hm : m.toInt = n) : ∃ k, k ≤ n ∧ (x &&& m) = Int32.ofNat k := by
  have h1 := c_and x m (by omega)
  have h5 := rng32 m
  refine ⟨(x &&& m).toInt.toNat, by omega, ?_⟩
  rw [← Int32.toInt_inj, ofNat_toInt (by omega)]
  omega
end Jvm.WK
namespace Jvm.WK
open Sem ClassFile Op Lib Jvm.Stand Jvm.Free Jvm.LawKit Jvm.RoadKit Bundle
/-- a String is kept where just an object of another class was written -/
theorem Str.keepObj {Z : State} {h h' : Heap} {a x : Addr} {cs : List Int32} {C : String} {kk : Nat} {a0 : Array Value} (F : Str Z h a cs) (K : Keep h h' [x]) (E : Exa Z h x C) (hC : C ≠ ST) (wi : (Cond.instantiable C kk).before a0 Z = true) : Str Z h' a cs := by
  obtain ⟨b, f1, f2, f3, f4, f5⟩ := F
  have n1 : a ∉ [x] := ninS (Exa.ne f1 E (Ne.symm hC)) nin0
  have n2 : ∀ {vs : List Int32}, Ary Z h b .byte vs → b ∉ [x] := fun A => ninS (A.ne_exa E wi) nin0
  exact ⟨b, f1.keep K, f2.keep K n1, f3, f4, f5.imp (fun q => ⟨q.1, q.2.1.keep K n1, q.2.2.keep K (n2 q.2.2)⟩) (fun q => ⟨q.1, q.2.1.keep K n1, q.2.2.keep K (n2 q.2.2)⟩)⟩
theorem Ary.ofStatic {Z : State} {a : Addr} {args : Array Value} {t : Term} {AL : List Int32} (ev : t.eval args Z none [] Z = some (.ref a)) (hx : (Cond.arrayOf t .int).value args Z none Z [] = some true) (n : Nat) (hn : AL.length = n) (hlen : (Term.length t).eval args Z none [] Z = some (.int (Int32.ofNat n))) (hl : n < 2147483648) (hr : ∀ (i : Nat) (v : Int32), AL[i]? = some v → (Term.elem t (.int (Int32.ofNat i))).eval args Z none [] Z = some (.int v)) : Ary Z Z.heap a .int AL := by
  obtain ⟨c, A⟩ := Arr.start ev hx
  have hz : c.slots.size = n := by
    simp only [Term.eval, ev, Option.bind_eq_bind, Option.bind_some, A.fin (Vm.Alike.refl _)] at hlen
    split at hlen
    · rename_i hq
      have := Value.int.inj (Option.some.inj hlen)
      exact (ofNat_inj (by omega) hl).mp this
    · simp at hlen
  refine ⟨c, A, List.ext_getElem? fun i => ?_, by omega, fun v hv => rfl⟩
  by_cases hi : i < n
  · have hv := List.getElem?_eq_getElem (l := AL) (i := i) (by omega)
    have q := elem_in (hr i _ hv) ev (Term.int_eval _) A.1
    rw [clamp_ofNat (by omega)] at q
    rw [List.getElem?_map, hv, Array.getElem?_toList]; exact q.2
  · rw [List.getElem?_eq_none (by simp; omega), List.getElem?_eq_none (by simp; omega)]
theorem noIns {Z : State} {a0 : Array Value} {C O K : String} {nn : Nat} (w : (Cond.superclass C O).before a0 Z = true) (wo : (Cond.noSuperclass O).before a0 Z = true) (wi : (Cond.instantiable K nn).before a0 Z = true) (h1 : C ≠ K) (h2 : O ≠ K) : ∃ c t, Z.vm.findClass C = some c ∧ Z.vm.findClass K = some t ∧ Z.vm.assignable c t = false := by
  obtain ⟨t, kt, g1, g2, g3, g4, -⟩ := Cond.instantiable_spec wi
  have n0 : NS Z O K := by
    obtain ⟨c, k, a1, a2, a3, -, -⟩ := Cond.noSuperclass_spec wo
    have ne := ids_ne a1 g1 h2
    refine ⟨c, t, a1, g1, fun fuel => ?_⟩
    cases fuel with
    | zero => rfl
    | succ f => simp [Vm.isSubclassAux, ne, a2, a3]
  obtain ⟨c, t', h0, g0, n3⟩ := NS.step w n0 h1
  cases g1.symm.trans g0
  obtain ⟨p, k, kp, q1, q2, q3, q4, q5, -, q7⟩ := Cond.superclass_spec h0 w
  have ne := ids_ne h0 g0 h1
  have hi : kt.isInterface = false := by
    rw [Bool.or_eq_false_iff] at g4; exact g4.1
  refine ⟨c, _, h0, g0, ?_⟩
  show Z.vm.assignableAux (255 + 1) c _ = false
  simp [Vm.assignableAux, ne, q2, g2, q5, g3, hi, Vm.isSubclass, n3]
end Jvm.WK
@@BLOCK:LamKit.lean.txt@@
namespace Jvm.WK
open Sem ClassFile Op Lib Jvm.Stand Jvm.Free Jvm.LawKit Jvm.RoadKit Jvm.LamKit Bundle
/-! WKL: a lambda that captures nothing, and the call of its object, in the narrow kit's form -/
section Lam
variable {κ : Cx} {l : Launch} {R : Room} {Z : State} {EL : List (String × Nat)} {own nm : String} {mx : Nat} {rt : Option FieldType} {vm : Vm} {T : State} {h : Heap} {k n pc : Nat} {Ls : Array Slot} {st : List Value} {G : Option Value → State → Prop} {a0 : Array Value}
theorem W.nwz (w : W κ l R Z EL own nm mx rt vm T h k n) : Nw Z.vm vm := w.cvn.2
theorem madeWarm {s t : State} {host : String} {σ : Lambda.Shape} {cK : ClassId} (hW : s.WarmedH t.vm) (h : LamKit.Made s host σ cK) : LamKit.Made t host σ cK := by
  obtain ⟨d, dk, h1, h2, h3, h4⟩ := h
  obtain ⟨dk', h1', he⟩ := hW.alike.2.2 _ _ h1
  refine ⟨d, dk', h1', by rw [he]; exact h2, Lambda.isMade_warmer hW h3, ?_⟩
  have hA := hW.alike
  simp only [State.lambdaCallable, hA.findClass, hA.assignable, hA.superclasses, hA.declaredIn] at h4 ⊢
  exact h4
theorem W.lamC (w : W κ l R Z EL own nm mx rt vm T h k n) {x : MethodName} (hnm : κ.s.methodNamed? x = some κ.m) {index : Nat} {σ : Lambda.Shape} (hsite : (Cond.lambdaSite x pc index σ).before a0 Z = true) (hcap : σ.captured = []) (hsz : Ls.size = mx) (hd : decode κ.c.code pc = .ok (.invokedynamic index, 5)) {Wd : Nat} (hWd : (st.map fun v => v.category).sum ≤ Wd) (hl : Wd + 3072 ≤ R.locals)
    (g : ∀ (a : Addr) (cK : ClassId), LamKit.Made Z x.cls σ cK → FnAt Z.heap a cK → Go κ G T (pc + 5) Ls (.ref a :: st)) : Go κ G T pc Ls st := by
  have hz := w.nwz
  obtain ⟨q1, L, k0, X, e, hS, hk, hZ, ho, N, CC⟩ := w
  obtain ⟨cK, one, hat⟩ := Cond.lambdaSite_spec hsite
  obtain ⟨mD, kD, cfD, i0, p0, lk, hmD, hkD, -, -, -, hfind, hmade, hcan, hl'⟩ := State.lambdaAt?_spec hat
  have hWz : Z.WarmedH vm := hz Z rfl
  have hWs : κ.s.WarmedH vm := CC.2.2 κ.s rfl
  have e1 : (Z.setVm vm).methodNamed? x = some mD := by rw [State.methodNamed?_setVm hWz.alike x]; exact hmD
  have e2 : (κ.s.setVm vm).methodNamed? x = some κ.m := by rw [State.methodNamed?_setVm hWs.alike x]; exact hnm
  cases (show some mD = some κ.m from e1.symm.trans e2)
  obtain ⟨kN, hkN, hname⟩ := className_of_methodNamed hmD
  cases hkD.symm.trans hkN
  obtain ⟨kD', hkD', heD⟩ := hWz.alike.2.2 _ _ hkD
  have hfind' : (kD'.callSites.find? fun y => y.1 == κ.m.idx && y.2.1 == pc) = some (i0, p0, lk) := by rw [heD]; exact hfind
  rcases hl' with ⟨a, cell, rfl, -, -, hcell, hcls, hvm, -⟩ | ⟨-, -, hne⟩
  · have hw : κ.e.platform.lambdaLinkWords = 3072 := by rw [X.admits.platform]
    exact Fx.via (fun t z => X.lambdaConstant q1.1 (g := mkF κ.m pc Ls st) rfl (by rw [q1.2.1]; exact hsz) hd hkD' hfind' (by rw [hw]; show 2 * 0 + (st.map fun v => v.category).sum + 3072 ≤ _; omega) z) (g a cK ⟨_, kD, hkD, hname, hmade, hcan⟩ ⟨cell, hcell, hcls, hvm⟩)
  · exact absurd hcap hne
/-- one int in, one int out: the interface's method of a lambda's object, its target a static method with a Met -/
theorem W.callLam (w : W κ l R Z EL own nm mx rt vm T h k n) {host : String} {index count : Nat} {xi y : MethodName} {σ : Lambda.Shape} {bytes : ByteArray} {v r : Int32}
    (hM : Met l y [Cond.code y bytes 1 (some .int)] { frames := 0, cells := 0, slots := 0, locals := 0 } (fun args _ => args = #[.int v]) (fun _ s o t => o = .returned (some (.int r)) ∧ t.heap = s.heap) 0 0 (fun _ => False))
    (w1 : (Cond.methodLink own index xi).before a0 Z = true) (w2 : (Cond.declares xi).before a0 Z = true) (w3 : (Cond.interfaceMethod xi.cls xi.cls xi.name xi.desc).before a0 Z = true) (w4 : (Cond.code y bytes 1 (some .int)).before a0 Z = true) (w5 : (Cond.static y).before a0 Z = true) (w6 : (Cond.initialized y.cls).before a0 Z = true)
    (hxi : xi.cls = σ.iface ∧ xi.name = σ.name ∧ xi.desc = σ.sam.toString) (hy : y.cls = σ.implClass ∧ y.name = σ.implName ∧ y.desc = σ.implDesc.toString) (hpoly : (xi.cls ≠ "java/lang/invoke/MethodHandle" ∧ xi.cls ≠ "java/lang/invoke/VarHandle") ∧ y.cls ≠ "java/lang/invoke/MethodHandle" ∧ y.cls ≠ "java/lang/invoke/VarHandle")
    {a : Addr} {cK : ClassId} (hmd : LamKit.Made Z host σ cK) (hfn : FnAt h a cK) {fcode : ByteArray} {idx ci : Nat} (hok : fwdOK σ host fcode 2 (some .int) idx ci = true) (f0 : decode fcode 0 = .ok (.iload_n 1, 1)) (f1 : decode fcode 1 = .ok (.invokestatic idx, 3)) (f4 : decode fcode 4 = .ok (.ireturn, 1))
    (hdx : parseMethodDescriptor xi.desc = some ⟨[.int], some .int⟩) (hdy : parseMethodDescriptor y.desc = some ⟨[.int], some .int⟩)
    (hsz : Ls.size = mx) (hd : decode κ.c.code pc = .ok (.invokeinterface index count, 5)) {Wd : Nat} (hWd : (st.map fun v => v.category).sum ≤ Wd) (hf : 2 ≤ R.frames) (hl : Wd + 25 ≤ R.locals) (hc : k ≤ R.cells) (hs : n ≤ R.slots)
    (g : ∀ T' : State, W κ l R Z EL own nm mx rt vm T' h k n → Go κ G T' (pc + 5) Ls (.int r :: st)) : Go κ G T pc Ls (.int v :: .ref a :: st) := by
  have hz := w.nwz
  obtain ⟨q1, L, k0, X, e, hS, hk, hZ, ho, N, CC⟩ := w
  have hmd' : LamKit.Made (κ.s.setVm vm) host σ cK := madeWarm (t := κ.s.setVm vm) (hz Z rfl) hmd
  obtain ⟨v', s', t, T', L', X', hL, e1, e3, hq, stp⟩ := callLamS X q1.1 (own := own) (host := host) (index := index) (count := count) (xi := xi) (y := y) (σ := σ) (bytes := bytes) (maxL := 1) (ret := some .int) hM (fun _ _ _ _ h => h) rfl rfl
    (fun w hw' a' U hU => by rw [List.mem_singleton.mp hw']; exact mv (wtrans (s := κ.s.setVm vm) hZ hU) w4) (List.mem_singleton.mpr rfl)
    ho (mvT (s := κ.s.setVm vm) hZ w1) (mvT (s := κ.s.setVm vm) hZ w2) (mvT (s := κ.s.setVm vm) hZ w3 (by simp [Cond.onTables, Cond.keepsFace, Cond.keeps, Cond.steady, Cond.faceAtom]; exact hpoly.1)) (mvT (s := κ.s.setVm vm) hZ w4) (mvT (s := κ.s.setVm vm) hZ w5) (mvT (s := κ.s.setVm vm) hZ w6) hxi hy hpoly hmd' (by rw [e]; exact hfn) hok f1 f4
    (g := mkF κ.m pc Ls (.int v :: .ref a :: st)) rfl (by rw [q1.2.1]; exact hsz) (argsL := [.int v]) (argsT := [.int v]) (rest := st) (L0 := #[.val (.ref a), .val (.int v)])
    (fun sig h => by cases hdx.symm.trans h; rfl) (fun sig h => by cases hdy.symm.trans h; rfl)
    rfl hd (fun _ => by simp [entryFrame, argsToLocals, Value.category]) rfl
    (fun U ck bl target hU hck _ _ z => XS.iloadN hU q1.1 rfl (by show decode ck.code 0 = _; rw [hck]; exact f0) rfl z)
    (fun st w t h => by cases h.1; exact Or.inl ⟨.int, _, rfl, Or.inl rfl, rfl, rfl, rfl⟩) hf (by show 2 * 0 + (st.map fun v => v.category).sum + (2 + 11) + (1 + 11 + 0) ≤ R.locals; omega) (by show k + 0 ≤ _; omega) (by show n + 0 ≤ _; omega) (fun _ _ _ => rfl)
  obtain ⟨hq1, hq2⟩ := hq
  cases hq1
  have X'' := Stand.forget (extra := L') X' (fun q hq => (hL q hq).elim)
  exact Fx.via (fun t z => stp t z) (g T' ⟨q1, L, k0, X'', by rw [e1, hq2, e3]; exact e, hS, hk, hZ, ho, N, CC⟩)
/-- the entry, with the method's own name -/
theorem enterN {l : Launch} {Z : State} {EL : List (String × Nat)} {y : MethodName} {bytes : ByteArray} {maxL : Nat} {ret : Option FieldType} {ws : List Jvm.Cond} {rm : Room} {sf : List Addr} {as' : Array Value} {h : Heap} {Q : Option Value → Heap → (Addr → Prop) → Prop} {a0 : Array Value} (hpl : plainName y.cls = true) (hEL : EW Z a0 EL) {Ls : Array Slot} (hef : ∀ m, entryFrame m as' maxL = mkF m 0 Ls [])
    (body : ∀ (κ : Cx) (vm : Vm) (T : State), κ.s.methodNamed? y = some κ.m → κ.c.code = bytes → κ.s.heap = h → W κ l rm Z EL y.cls y.name maxL ret vm T h 0 0 → (∀ x ∈ sf, Safe Z EL vm h x) → Go κ (GQ κ Z EL rm Q) T 0 Ls []) : Ctr l Z EL y bytes maxL ret ws rm sf as' h Q := by
  refine MetFree.of_bodySF (plainFor_of_name hpl) hisR ?_
  intro p e s m args below meth c s₁ Bd hml hP hK
  obtain ⟨rfl, hZ, hh, hC, hSf⟩ := hP
  have hown : s.vm.findClass y.cls = some m.cls := findClass_of_methodNamed Bd.named
  have hnm := (name_of_methodNamed Bd.named Bd.method).1
  have X0 : Stand p l e rm s m args below meth c s₁ [] 0 0 := Stand.of_body Bd
  have e0 : s₁.heap = h := by rw [← hh, Bd.state]; rfl
  have w : W (p, e, s, m, args, below, meth, c) l rm Z EL y.cls y.name maxL ret s.vm s₁ h 0 0 :=
    ⟨⟨Bd.exec, hml, Bd.returns, Bd.notSynchronized, hnm, a0, hEL⟩, [], s.heap.size, X0, e0, (State.WarmedH.refl s).since _, by rw [hh]; exact Nat.le_refl _, hZ, hown, Fr.nil _, by rw [hh]; exact CRn.refl hC⟩
  obtain ⟨v, B, h1, h2, h3, L, h4, h5, h6⟩ := body (p, e, s, m, args, below, meth, c) s.vm s₁ Bd.named Bd.bytes hh w hSf
  refine ⟨B, .returned v, castTop (hef m) h1, h2, h3, v, L, rfl, h4, h5, h6⟩
/-- the identity's Met -/
theorem idMet {y : MethodName} {bytes : ByteArray} (hpl : plainName y.cls = true) (d0 : decode bytes 0 = .ok (.iload_n 0, 1)) (d1 : decode bytes 1 = .ok (.ireturn, 1)) (l : Launch) (v : Int32) : Met l y [Cond.code y bytes 1 (some .int)] { frames := 0, cells := 0, slots := 0, locals := 0 } (fun args _ => args = #[.int v]) (fun _ s o t => o = .returned (some (.int v)) ∧ t.heap = s.heap) 0 0 (fun _ => False) := by
  refine MetFree.of_bodyS (code := bytes) (maxLocals := 1) (ret := some .int) hpl (hisOf (List.mem_singleton.mpr rfl)) ?_
  intro p e s m args below meth c s₁ Bd hml hP _
  obtain rfl : args = #[.int v] := hP
  have X := Stand.of_body Bd
  obtain ⟨fs, hr, hrun, hended, hW, hsame⟩ := X.leave (v := some (.int v)) (fun h => by rw [Bd.returns] at h; cases h)
  refine ⟨s₁.setFrames fs, _, ?_, hrun, hended, ⟨rfl, by rw [Bd.state]; rfl⟩, [], ⟨⟨_, rfl⟩, hW, hsame⟩, fun q hq => nomatch hq⟩
  show Steps p.tables e below (s₁.setTop (mkF m 0 #[.val (.int v)] [])) _
  refine XS.iloadN X.here Bd.exec rfl (by show decode c.code 0 = _; rw [Bd.bytes]; exact d0) rfl ?_
  exact X.ireturnOut Bd.exec Bd.returns rfl (Or.inl rfl) (by rw [Bd.bytes]; exact d1) hr
end Lam
end Jvm.WK
namespace Jvm.Pilot.@@N@@
open Jvm Jvm.ClassFile Sem Op Lib Jvm.Free Jvm.Stand Jvm.LawKit Jvm.RoadKit Jvm.WK Bundle Jvm.Pilot.@@N@@.Jvm.D
def Rn (qs : List Nat) : Nat → Nat → Nat → Prop
  | 0, x, r => x = r ∧ qs[x]? = some x
  | k + 1, x, r => ∃ y, qs[x]? = some y ∧ y ≠ x ∧ Rn qs k y r
theorem Rn.fix {qs : List Nat} : ∀ {k x r : Nat}, Rn qs k x r → qs[r]? = some r
  | 0, x, r, h => by obtain ⟨rfl, h⟩ := h; exact h
  | k + 1, x, r, h => by obtain ⟨y, -, -, h⟩ := h; exact Rn.fix h
theorem Rn.fn {qs : List Nat} : ∀ {k j x r s : Nat}, Rn qs k x r → Rn qs j x s → r = s
  | 0, 0, x, r, s, h, g => by rw [← h.1, ← g.1]
  | 0, j + 1, x, r, s, h, g => by
    obtain ⟨y, g1, g2, -⟩ := g
    rw [h.2] at g1; exact absurd (Option.some.inj g1).symm g2
  | k + 1, 0, x, r, s, h, g => by
    obtain ⟨y, h1, h2, -⟩ := h
    rw [g.2] at h1; exact absurd (Option.some.inj h1).symm h2
  | k + 1, j + 1, x, r, s, h, g => by
    obtain ⟨y, h1, -, h3⟩ := h
    obtain ⟨z, g1, -, g3⟩ := g
    rw [h1] at g1
    cases g1
    exact Rn.fn h3 g3
theorem set_ne {qs : List Nat} {x z r : Nat} (h : z ≠ x) : (qs.set x r)[z]? = qs[z]? := by rw [List.getElem?_set_ne (Ne.symm h)]
theorem set_eq {qs : List Nat} {x r : Nat} (h : x < qs.length) : (qs.set x r)[x]? = some r := by rw [List.getElem?_set_self h]
theorem lt_of {qs : List Nat} {x y : Nat} (h : qs[x]? = some y) : x < qs.length := (List.getElem?_eq_some_iff.mp h).1
/-- path compression -/
theorem Rn.comp {qs : List Nat} {x r j : Nat} (hx : Rn qs j x r) (hl : x < qs.length) : ∀ {k z s : Nat}, Rn qs k z s → ∃ k', k' ≤ k ∧ Rn (qs.set x r) k' z s
  | 0, z, s, h => by
    obtain ⟨rfl, h⟩ := h
    refine ⟨0, Nat.le_refl _, rfl, ?_⟩
    by_cases q : z = x
    · subst q
      have : z = r := Rn.fn (k := 0) (j := j) ⟨rfl, h⟩ hx
      subst this
      exact set_eq hl
    · rw [set_ne q]; exact h
  | k + 1, z, s, h => by
    have h0 := h
    obtain ⟨y, h1, h2, h3⟩ := h
    by_cases q : z = x
    · subst q
      have e : s = r := Rn.fn h0 hx
      subst e
      by_cases q2 : s = z
      · subst q2
        exact ⟨0, Nat.zero_le _, rfl, set_eq hl⟩
      · exact ⟨1, by omega, s, set_eq hl, q2, rfl, by rw [set_ne q2]; exact hx.fix⟩
    · obtain ⟨k', hk, h4⟩ := Rn.comp hx hl h3
      exact ⟨k' + 1, by omega, y, by rw [set_ne q]; exact h1, h2, h4⟩
/-- hanging one root below another -/
theorem Rn.join {qs : List Nat} {ri rj : Nat} (hi : qs[ri]? = some ri) (hj : qs[rj]? = some rj) : ∀ {k z s : Nat}, Rn qs k z s → ∃ k', Rn (qs.set ri rj) k' z (if s = ri then rj else s)
  | 0, z, s, h => by
    obtain ⟨rfl, h⟩ := h
    by_cases q : z = ri
    · subst q
      rw [if_pos rfl]
      by_cases q2 : rj = z
      · subst q2; exact ⟨0, rfl, set_eq (lt_of hi)⟩
      · exact ⟨1, rj, set_eq (lt_of hi), q2, rfl, by rw [set_ne q2]; exact hj⟩
    · rw [if_neg q]; exact ⟨0, rfl, by rw [set_ne q]; exact h⟩
  | k + 1, z, s, h => by
    obtain ⟨y, h1, h2, h3⟩ := h
    obtain ⟨k', h4⟩ := Rn.join hi hj h3
    have q : z ≠ ri := fun q => by subst q; rw [hi] at h1; exact h2 (Option.some.inj h1).symm
    exact ⟨k' + 1, y, by rw [set_ne q]; exact h1, h2, h4⟩
/-- the array qs of n parents stands for the map ρ to the roots -/
def Rep (qs : List Nat) (ρ : Nat → Nat) (n : Nat) : Prop := qs.length = n ∧ (∀ y ∈ qs, y < n) ∧ ∀ x, x < n → ∃ k, Rn qs k x (ρ x)
theorem Rn.lt {qs : List Nat} {k x r : Nat} (h : Rn qs k x r) : r < qs.length := lt_of h.fix
theorem Rep.lt {qs : List Nat} {ρ : Nat → Nat} {n x : Nat} (R : Rep qs ρ n) (hx : x < n) : ρ x < n := by
  obtain ⟨k, h⟩ := R.2.2 x hx
  rw [← R.1]; exact h.lt
theorem Rep.root {qs : List Nat} {ρ : Nat → Nat} {n x : Nat} (R : Rep qs ρ n) (hx : x < n) : qs[ρ x]? = some (ρ x) := by
  obtain ⟨k, h⟩ := R.2.2 x hx
  exact h.fix
theorem Rep.idem {qs : List Nat} {ρ : Nat → Nat} {n x : Nat} (R : Rep qs ρ n) (hx : x < n) : ρ (ρ x) = ρ x := by
  obtain ⟨k, h⟩ := R.2.2 (ρ x) (R.lt hx)
  exact Rn.fn h (j := 0) ⟨rfl, R.root hx⟩
theorem mem_set_lt {qs : List Nat} {n i v : Nat} (h : ∀ y ∈ qs, y < n) (hv : v < n) : ∀ y ∈ qs.set i v, y < n := fun y hy => (List.mem_or_eq_of_mem_set hy).elim (h y) (fun e => by rw [e]; exact hv)
theorem Rep.comp {qs : List Nat} {ρ : Nat → Nat} {n x : Nat} (R : Rep qs ρ n) (hx : x < n) : Rep (qs.set x (ρ x)) ρ n := by
  obtain ⟨j, hj⟩ := R.2.2 x hx
  refine ⟨by rw [List.length_set]; exact R.1, mem_set_lt R.2.1 (R.lt hx), fun z hz => ?_⟩
  obtain ⟨k, h⟩ := R.2.2 z hz
  obtain ⟨k', -, h'⟩ := Rn.comp hj (by rw [R.1]; exact hx) h
  exact ⟨k', h'⟩
theorem Rep.join {qs : List Nat} {ρ : Nat → Nat} {n i j : Nat} (R : Rep qs ρ n) (hi : i < n) (hj : j < n) : Rep (qs.set (ρ i) (ρ j)) (fun x => if ρ x = ρ i then ρ j else ρ x) n := by
  refine ⟨by rw [List.length_set]; exact R.1, mem_set_lt R.2.1 (R.lt hj), fun z hz => ?_⟩
  obtain ⟨k, h⟩ := R.2.2 z hz
  exact Rn.join (R.root hi) (R.root hj) h
theorem Rep.id {n : Nat} : Rep (List.range n) (fun x => x) n := ⟨List.length_range, fun y hy => List.mem_range.mp hy, fun x hx => ⟨0, rfl, by rw [List.getElem?_range hx]⟩⟩
abbrev ns (qs : List Nat) : List Int32 := qs.map Int32.ofNat
theorem ns_at {qs : List Nat} {i y : Nat} (h : qs[i]? = some y) : (ns qs)[i]? = some (Int32.ofNat y) := by rw [List.getElem?_map, h]; rfl
theorem fnExt {h h' : Heap} {a : Addr} {cK : ClassId} (F : LamKit.FnAt h a cK) (E : Ext h h') : LamKit.FnAt h' a cK := by
  obtain ⟨cell, h1, h2⟩ := F; exact ⟨cell, E.2 _ _ h1, h2⟩
def fcode : ByteArray := ⟨#[0x1b, 0xb8, 0x00, 0x11, 0xac]⟩
theorem f0 : decode fcode 0 = .ok (.iload_n 1, 1) := by decide +kernel
theorem f1 : decode fcode 1 = .ok (.invokestatic 17, 3) := by decide +kernel
theorem f4 : decode fcode 4 = .ok (.ireturn, 1) := by decide +kernel
abbrev sg : Lambda.Shape := (Jvm.Lambda.Shape.mk "java/util/function/IntUnaryOperator" "applyAsInt" (Jvm.ClassFile.MethodDescriptor.mk ([Jvm.ClassFile.FieldType.int] : List Jvm.ClassFile.FieldType) (Option.some Jvm.ClassFile.FieldType.int)) ([] : List Jvm.ClassFile.FieldType) (6 : Nat) "com/example/isomark/isomark/DisjointSets" "lambda$new$0" (Jvm.ClassFile.MethodDescriptor.mk ([Jvm.ClassFile.FieldType.int] : List Jvm.ClassFile.FieldType) (Option.some Jvm.ClassFile.FieldType.int)) false (Jvm.ClassFile.MethodDescriptor.mk ([Jvm.ClassFile.FieldType.int] : List Jvm.ClassFile.FieldType) (Option.some Jvm.ClassFile.FieldType.int)))
theorem fwd : LamKit.fwdOK sg "com/example/isomark/isomark/DisjointSets" fcode 2 (some .int) 17 14 = true := by decide +kernel
theorem t0 : decode prog_32_method_4_code 0 = .ok (.iload_n 0, 1) := by decide +kernel
theorem t1 : decode prog_32_method_4_code 1 = .ok (.ireturn, 1) := by decide +kernel
theorem inv_step {ρ : Nat → Nat} {L : Nat → Int32} {a b : Nat} (h : (∀ i j, i < 5 → j < 5 → (L i = L j ↔ ρ i = ρ j))) (ha : a < 5) (hb : b < 5) : ∀ i j, i < 5 → j < 5 → ((if L i = L a then L b else L i) = (if L j = L a then L b else L j) ↔ (if ρ i = ρ a then ρ b else ρ i) = (if ρ j = ρ a then ρ b else ρ j)) := by
  intro i j hi hj
  have e1 := h i a hi ha
  have e2 := h j a hj ha
  by_cases p : ρ i = ρ a
  · by_cases q : ρ j = ρ a
    · rw [if_pos (e1.mpr p), if_pos (e2.mpr q), if_pos p, if_pos q]; exact ⟨fun _ => rfl, fun _ => rfl⟩
    · rw [if_pos (e1.mpr p), if_neg (fun z => q (e2.mp z)), if_pos p, if_neg q]; exact h b j hb hj
  · by_cases q : ρ j = ρ a
    · rw [if_neg (fun z => p (e1.mp z)), if_pos (e2.mpr q), if_neg p, if_pos q]; exact h i b hi hb
    · rw [if_neg (fun z => p (e1.mp z)), if_neg (fun z => q (e2.mp z)), if_neg p, if_neg q]; exact h i j hi hj
theorem at5 {f : Nat → Int32} : ∀ j, j < 5 → ([f 0, f 1, f 2, f 3, f 4] : List Int32)[j]? = some (f j) := by
  intro j hj
  obtain rfl | rfl | rfl | rfl | rfl : j = 0 ∨ j = 1 ∨ j = 2 ∨ j = 3 ∨ j = 4 := by omega
  all_goals rfl
theorem pd0 : parseMethodDescriptor "(Ljava/lang/Object;)Ljava/lang/Object;" = some ⟨[(.object "java/lang/Object")], (some (.object "java/lang/Object"))⟩ := by decide +kernel
theorem pd1 : parseMethodDescriptor "(I)I" = some ⟨[.int], (some .int)⟩ := by decide +kernel
theorem pd2 : parseMethodDescriptor "([ILjava/util/function/IntUnaryOperator;)V" = some ⟨[(.array .int), (.object "java/util/function/IntUnaryOperator")], none⟩ := by decide +kernel
theorem pd3 : parseMethodDescriptor "(II)V" = some ⟨[.int, .int], none⟩ := by decide +kernel
theorem pd4 : parseMethodDescriptor "([III)V" = some ⟨[(.array .int), .int, .int], none⟩ := by decide +kernel
theorem pd5 : parseMethodDescriptor "(I)V" = some ⟨[.int], none⟩ := by decide +kernel
theorem pd6 : parseMethodDescriptor "(Lcom/example/isomark/isomark/DisjointSets;[II)V" = some ⟨[(.object "com/example/isomark/isomark/DisjointSets"), (.array .int), .int], none⟩ := by decide +kernel
theorem pd7 : parseMethodDescriptor "([I[II)Z" = some ⟨[(.array .int), (.array .int), .int], (some .boolean)⟩ := by decide +kernel
theorem pd8 : parseMethodDescriptor "([I[III)Z" = some ⟨[(.array .int), (.array .int), .int, .int], (some .boolean)⟩ := by decide +kernel
def D_rnn : List (Nat × Instr × Nat) := [(0, .aload_n 0, 1), (1, .ifnonnull 11, 3), (4, .new 84, 3), (7, .dup, 1), (8, .invokespecial 86, 3), (11, .athrow, 1), (12, .aload_n 0, 1), (13, .areturn, 1)]
theorem hD_rnn : ∀ q ∈ D_rnn, decode jdk_31_method_10_code q.1 = .ok q.2 := by decide +kernel
set_option maxRecDepth 65536 in
set_option maxHeartbeats 4000000 in
theorem c_rnn (l : Launch) (Z : State) (a0 : Array Value) (hw : ∀ d ∈ tables_1, d.before a0 Z = true) (hEL : EW Z a0 []) {t : Addr} {h : Heap} : Ctr l Z [] (⟨"java/util/Objects", "requireNonNull", "(Ljava/lang/Object;)Ljava/lang/Object;"⟩ : MethodName) jdk_31_method_10_code 1 (some (.object "java/lang/Object")) [] ({ frames := 0, cells := 0, slots := 0, locals := 0 } : Room) [] #[(.ref t)] h (fun v h' S => h = h' ∧ v = some (.ref t)) := by
  refine enter (a0 := a0) (by first | (simp [plainName, overriddenIn]; done) | decide +kernel) hEL (Ls := #[.val (.ref t)]) (fun m => by first | (simp [entryFrame, mkF, argsToLocals, Value.category]; done) | rfl) ?_
  intro κ vm T hby hs w Sf
  have dc := Dec.of hby hD_rnn
  show Go κ (GQ κ Z [] ({ frames := 0, cells := 0, slots := 0, locals := 0 } : Room) (fun v h' S => h = h' ∧ v = some (.ref t))) T 0 #[.val (.ref t)] []
  refine blk (pc' := 1) (Ls' := #[.val (.ref t)]) (st' := [(.ref t)]) [oAloadN w.ok (dc.g 0 rfl)] rfl ?_
  refine nnRef (pc' := 12) w.ok (dc.g 1 rfl) (by decide) (by decide) ?_
  show Go κ _ T 12 #[.val (.ref t)] []
  refine blk (pc' := 13) (Ls' := #[.val (.ref t)]) (st' := [(.ref t)]) [oAloadN w.ok (dc.g 6 rfl)] rfl ?_
  exact w.retA rfl rfl rfl rfl (dc.g 7 rfl) (by decide) (by decide) (fun S hS => ⟨rfl, rfl⟩)
def D_setall : List (Nat × Instr × Nat) := [(0, .aload_n 1, 1), (1, .invokestatic 175, 3), (4, .pop, 1), (5, .iconst 0, 1), (6, .istore_n 2, 1), (7, .iload_n 2, 1), (8, .aload_n 0, 1), (9, .arraylength, 1), (10, .if_icmp .ge 19, 3), (13, .aload_n 0, 1), (14, .iload_n 2, 1), (15, .aload_n 1, 1), (16, .iload_n 2, 1), (17, .invokeinterface 582 2, 5), (22, .iastore, 1), (23, .iinc 2 1, 3), (26, .goto (-19), 3), (29, .return_, 1)]
theorem hD_setall : ∀ q ∈ D_setall, decode jdk_65_method_175_code q.1 = .ok q.2 := by decide +kernel
set_option maxRecDepth 65536 in
set_option maxHeartbeats 4000000 in
theorem c_setall (l : Launch) (Z : State) (a0 : Array Value) (hw : ∀ d ∈ tables_1, d.before a0 Z = true) (hEL : EW Z a0 []) {A f : Addr} {cK : ClassId} {n : Nat} {vs : List Int32} {h : Heap} (oz : Ext Z.heap h) (FA : Ary Z h A .int vs) (hl : vs.length = n) (hn : n ≤ 5) (hA0 : Z.heap.size ≤ A) (hmd : LamKit.Made Z "com/example/isomark/isomark/DisjointSets" sg cK) (hfn : LamKit.FnAt Z.heap f cK) : Ctr l Z [] (⟨"java/util/Arrays", "setAll", "([ILjava/util/function/IntUnaryOperator;)V"⟩ : MethodName) jdk_65_method_175_code 3 none [] ({ frames := 2, cells := 0, slots := 0, locals := 27 } : Room) [] #[(.ref A), (.ref f)] h (fun v h' S => v = none ∧ Keep h h' [A] ∧ Ary Z h' A .int (ns (List.range n))) := by
  refine enter (a0 := a0) (by first | (simp [plainName, overriddenIn]; done) | decide +kernel) hEL (Ls := #[.val (.ref A), .val (.ref f), .unset]) (fun m => by first | (simp [entryFrame, mkF, argsToLocals, Value.category]; done) | rfl) ?_
  intro κ vm T hby hs w Sf
  have dc := Dec.of hby hD_setall
  show Go κ (GQ κ Z [] ({ frames := 2, cells := 0, slots := 0, locals := 27 } : Room) (fun v h' S => v = none ∧ Keep h h' [A] ∧ Ary Z h' A .int (ns (List.range n)))) T 0 #[.val (.ref A), .val (.ref f), .unset] []
  have ozs : Ext Z.heap κ.s.heap := by rw [hs]; exact oz
  refine blk (pc' := 1) (Ls' := #[.val (.ref A), .val (.ref f), .unset]) (st' := [(.ref f)]) [oAloadN w.ok (dc.g 0 rfl)] rfl ?_
  refine w.callS (wd hw 19 rfl) (wd hw 20 rfl) (wd hw 21 rfl) (wd hw 22 rfl) (by decide) (argsL := [(.ref f)]) (Wd := 0) (Ctr.pays (len := 3) (Wd := 0) (c_rnn l Z a0 hw hEL) w (wd hw 22 rfl) (wd hw 21 rfl) hEL (by decide) (by decide) sfNil) pd0 rfl (st := []) rfl rfl (Nat.le_of_eq rfl) (dc.g 1 rfl) (by decide) (by decide) ?_
  intro vm1 T2 h3 v4 w5 C6 Q7
  obtain ⟨eQ7, rfl⟩ := Q7
  subst eQ7
  show Go κ _ T2 4 #[.val (.ref A), .val (.ref f), .unset] [(.ref f)]
  refine blk (pc' := 7) (Ls' := #[.val (.ref A), .val (.ref f), .val (.int (0 : Int32))]) (st' := []) [oPop w5.ok (dc.g 2 rfl), oIconst w5.ok (dc.g 3 rfl), oIstoreN w5.ok (dc.g 4 rfl)] rfl ?_
  have key : ∀ (g i : Nat), i + g = n → ∀ (vm1 : Vm) (T1 : State) (h1 : Heap), W κ l ({ frames := 2, cells := 0, slots := 0, locals := 27 } : Room) Z [] "java/util/Arrays" "setAll" 3 none vm1 T1 h1 0 0 → Ary Z h1 A .int (ns (List.range i) ++ vs.drop i) → Keep h h1 [A] → Go κ (GQ κ Z [] ({ frames := 2, cells := 0, slots := 0, locals := 27 } : Room) (fun v h' S => v = none ∧ Keep h h' [A] ∧ Ary Z h' A .int (ns (List.range n)))) T1 7 #[.val (.ref A), .val (.ref f), .val (.int (Int32.ofNat i))] [] := by
    intro g
    induction g with
    | zero =>
      intro i hi vm1 T1 h1 w1 F1 K1
      obtain rfl : i = n := by omega
      have e1 : ns (List.range i) ++ vs.drop i = ns (List.range i) := by rw [List.drop_eq_nil_of_le (by omega), List.append_nil]
      rw [e1] at F1
      have e2 : (ns (List.range i)).length = i := by simp
      show Go κ _ T1 7 #[.val (.ref A), .val (.ref f), .val (.int (Int32.ofNat i))] []
      refine blk (pc' := 9) (Ls' := #[.val (.ref A), .val (.ref f), .val (.int (Int32.ofNat i))]) (st' := [(.ref A), (.int (Int32.ofNat i))]) [oIloadN w1.ok (dc.g 5 rfl), oAloadN w1.ok (dc.g 6 rfl)] rfl ?_
      refine w1.len F1 (dc.g 7 rfl) ?_
      show Go κ _ T1 10 #[.val (.ref A), .val (.ref f), .val (.int (Int32.ofNat i))] [(.int (Int32.ofNat (ns (List.range i)).length)), (.int (Int32.ofNat i))]
      rw [e2]
      show Go κ _ T1 10 #[.val (.ref A), .val (.ref f), .val (.int (Int32.ofNat i))] [(.int (Int32.ofNat i)), (.int (Int32.ofNat i))]
      refine cGe (pc' := 29) w1.ok (dc.g 8 rfl) (by decide) (by decide) (fun hc8 => ?_) (fun hc8 => absurd hc8 (fun q => absurd q (by rw [ofNat_lt (by omega) (by omega)]; omega)))
      show Go κ _ T1 29 #[.val (.ref A), .val (.ref f), .val (.int (Int32.ofNat i))] []
      exact w1.retV (dc.g 17 rfl) (by decide) (by decide) (fun S hS => ⟨rfl, K1, F1⟩)
    | succ g ih =>
      intro i hi vm1 T1 h1 w1 F1 K1
      have e2 : (ns (List.range i) ++ vs.drop i).length = n := by simp; omega
      show Go κ _ T1 7 #[.val (.ref A), .val (.ref f), .val (.int (Int32.ofNat i))] []
      refine blk (pc' := 9) (Ls' := #[.val (.ref A), .val (.ref f), .val (.int (Int32.ofNat i))]) (st' := [(.ref A), (.int (Int32.ofNat i))]) [oIloadN w1.ok (dc.g 5 rfl), oAloadN w1.ok (dc.g 6 rfl)] rfl ?_
      refine w1.len F1 (dc.g 7 rfl) ?_
      show Go κ _ T1 10 #[.val (.ref A), .val (.ref f), .val (.int (Int32.ofNat i))] [(.int (Int32.ofNat (ns (List.range i) ++ vs.drop i).length)), (.int (Int32.ofNat i))]
      rw [e2]
      show Go κ _ T1 10 #[.val (.ref A), .val (.ref f), .val (.int (Int32.ofNat i))] [(.int (Int32.ofNat n)), (.int (Int32.ofNat i))]
      refine cGe (pc' := 29) w1.ok (dc.g 8 rfl) (by decide) (by decide) (fun hc9 => absurd ((ofNat_lt (by omega) (by omega)).mpr (by omega)) hc9) (fun hc9 => ?_)
      show Go κ _ T1 13 #[.val (.ref A), .val (.ref f), .val (.int (Int32.ofNat i))] []
      refine blk (pc' := 17) (Ls' := #[.val (.ref A), .val (.ref f), .val (.int (Int32.ofNat i))]) (st' := [(.int (Int32.ofNat i)), (.ref f), (.int (Int32.ofNat i)), (.ref A)]) [oAloadN w1.ok (dc.g 9 rfl), oIloadN w1.ok (dc.g 10 rfl), oAloadN w1.ok (dc.g 11 rfl), oIloadN w1.ok (dc.g 12 rfl)] rfl ?_
      refine w1.callLam (xi := (⟨"java/util/function/IntUnaryOperator", "applyAsInt", "(I)I"⟩ : MethodName)) (y := (⟨"com/example/isomark/isomark/DisjointSets", "lambda$new$0", "(I)I"⟩ : MethodName)) (σ := sg) (v := Int32.ofNat i) (r := Int32.ofNat i) (idMet (by decide +kernel) t0 t1 l _) (wd hw 23 rfl) (wd hw 24 rfl) (wd hw 25 rfl) (wd hw 27 rfl) (wd hw 26 rfl) (wd hw 2 rfl) (by decide +kernel) (by decide +kernel) (by decide) hmd (fnExt hfn (w1.old ozs)) fwd f0 f1 f4 pd1 pd1 rfl (dc.g 13 rfl) (Wd := 2) (Nat.le_of_eq rfl) (by decide) (by decide) (by decide) (by decide) ?_
      intro T10 w11
      show Go κ _ T10 22 #[.val (.ref A), .val (.ref f), .val (.int (Int32.ofNat i))] [(.int (Int32.ofNat i)), (.int (Int32.ofNat i)), (.ref A)]
      refine w11.ist F1 (i := i) rfl (by rw [e2]; omega) hA0 (dc.g 14 rfl) ?_
      intro T12 h14 w13 W15 F16
      show Go κ _ T12 23 #[.val (.ref A), .val (.ref f), .val (.int (Int32.ofNat i))] []
      obtain ⟨slW15, vvW15, WW15⟩ := W15
      refine blk (pc' := 7) (Ls' := #[.val (.ref A), .val (.ref f), .val (.int ((Int32.ofNat i) + (1 : Int32)))]) (st' := []) [oIinc w13.ok (dc.g 15 rfl), oGoto w13.ok 7 (dc.g 16 rfl)] rfl ?_
      rw [ofNat_succ]
      refine ih (i + 1) (by omega) _ _ _ w13 ?_ (K1.wr WW15 (Or.inl (List.mem_of_getElem? (i := 0) rfl)))
      have e3 : (ns (List.range i) ++ vs.drop i).set i (Int32.ofNat i) = ns (List.range (i + 1)) ++ vs.drop (i + 1) := by
        have hlr : (ns (List.range i)).length = i := by simp
        rw [List.set_append_right _ _ (by omega), hlr, Nat.sub_self, List.drop_eq_getElem_cons (show i < vs.length by omega), List.set_cons_zero, List.range_succ]
        simp [ns]
      rw [e3] at F16; exact F16
  exact key n 0 (by omega) _ _ _ w5 (by simpa using FA) (Keep.refl _ _)
def D_init : List (Nat × Instr × Nat) := [(0, .aload_n 0, 1), (1, .invokespecial 1, 3), (4, .aload_n 0, 1), (5, .iload_n 1, 1), (6, .newarray .int, 2), (8, .putfield 7, 3), (11, .aload_n 0, 1), (12, .getfield 7, 3), (15, .invokedynamic 13, 5), (20, .invokestatic 17, 3), (23, .return_, 1)]
theorem hD_init : ∀ q ∈ D_init, decode prog_32_method_1_code q.1 = .ok q.2 := by decide +kernel
set_option maxRecDepth 65536 in
set_option maxHeartbeats 4000000 in
theorem c_init (l : Launch) (Z : State) (a0 : Array Value) (hw : ∀ d ∈ tables_1, d.before a0 Z = true) (hEL : EW Z a0 []) {d : Addr} {h : Heap} (oz : Ext Z.heap h) (X : Exa Z h d "com/example/isomark/isomark/DisjointSets") (FP : Fld Z h d "com/example/isomark/isomark/DisjointSets" "parent" "[I" .null) (hd0 : Z.heap.size ≤ d) : Ctr l Z [] (⟨"com/example/isomark/isomark/DisjointSets", "<init>", "(I)V"⟩ : MethodName) prog_32_method_1_code 2 none [] ({ frames := 3, cells := 1, slots := 5, locals := 3074 } : Room) [] #[(.ref d), (.int (5 : Int32))] h (fun v h' S => v = none ∧ Keep h h' [d] ∧ Exa Z h' d "com/example/isomark/isomark/DisjointSets" ∧ ∃ A, Fld Z h' d "com/example/isomark/isomark/DisjointSets" "parent" "[I" (.ref A) ∧ h.size ≤ A ∧ Ary Z h' A .int (ns (List.range 5))) := by
  refine enterN (a0 := a0) (by first | (simp [plainName, overriddenIn]; done) | decide +kernel) hEL (Ls := #[.val (.ref d), .val (.int (5 : Int32))]) (fun m => by first | (simp [entryFrame, mkF, argsToLocals, Value.category]; done) | rfl) ?_
  intro κ vm T hnm hby hs w Sf
  have dc := Dec.of hby hD_init
  show Go κ (GQ κ Z [] ({ frames := 3, cells := 1, slots := 5, locals := 3074 } : Room) (fun v h' S => v = none ∧ Keep h h' [d] ∧ Exa Z h' d "com/example/isomark/isomark/DisjointSets" ∧ ∃ A, Fld Z h' d "com/example/isomark/isomark/DisjointSets" "parent" "[I" (.ref A) ∧ h.size ≤ A ∧ Ary Z h' A .int (ns (List.range 5)))) T 0 #[.val (.ref d), .val (.int (5 : Int32))] []
  have ozs : Ext Z.heap κ.s.heap := by rw [hs]; exact oz
  refine blk (pc' := 1) (Ls' := #[.val (.ref d), .val (.int (5 : Int32))]) (st' := [(.ref d)]) [oAloadN w.ok (dc.g 0 rfl)] rfl ?_
  refine w.initO (wd hw 6 rfl) (wd hw 7 rfl) (wd hw 8 rfl) rfl (dc.g 1 rfl) (by decide) (Wd := 0) (Nat.le_of_eq rfl) (by decide) ?_
  intro T17 w18
  show Go κ _ T17 4 #[.val (.ref d), .val (.int (5 : Int32))] []
  refine blk (pc' := 6) (Ls' := #[.val (.ref d), .val (.int (5 : Int32))]) (st' := [(.int (5 : Int32)), (.ref d)]) [oAloadN w18.ok (dc.g 2 rfl), oIloadN w18.ok (dc.g 3 rfl)] rfl ?_
  refine w18.newarr (aty := .int) (wd hw 9 rfl) (dc.g 4 rfl) (c := 5) (by decide) (by decide) (cap := 5) (by first | decide | omega) (by first | decide | omega) (by decide) (by decide) rfl rfl ?_
  intro T19 h21 x22 w20 g23 E24 F25 S26
  show Go κ _ T19 8 #[.val (.ref d), .val (.int (5 : Int32))] [(.ref x22), (.ref d)]
  have X1 := X.ext E24
  refine w20.put (wd hw 10 rfl) (FP.ext E24) X1 (Or.inr ⟨(wd hw 11 rfl), rfl, rfl⟩) (wd hw 1 rfl) (ty := (.array .int)) (by decide) rfl rfl safe_nil hd0 (dc.g 5 rfl) ?_
  intro T27 h29 w28 W30 S31
  show Go κ _ T27 11 #[.val (.ref d), .val (.int (5 : Int32))] []
  have hne : x22 ≠ d := F25.ne_exa X1 (wd hw 1 rfl)
  have F1 := F25.other W30 hne
  have G1 : Fld Z h29 d "com/example/isomark/isomark/DisjointSets" "parent" "[I" (.ref x22) := (FP.ext E24).same W30
  have X2 := X1.wr W30
  have K1 := ((Keep.refl h [d]).ext E24).wr W30 (Or.inl (List.mem_of_getElem? (i := 0) rfl))
  refine blk (pc' := 12) (Ls' := #[.val (.ref d), .val (.int (5 : Int32))]) (st' := [(.ref d)]) [oAloadN w28.ok (dc.g 6 rfl)] rfl ?_
  refine w28.get (wd hw 10 rfl) G1 (dc.g 7 rfl) ?_
  intro T32 w33
  show Go κ _ T32 15 #[.val (.ref d), .val (.int (5 : Int32))] [(.ref x22)]
  refine w33.lamC (x := (⟨"com/example/isomark/isomark/DisjointSets", "<init>", "(I)V"⟩ : MethodName)) hnm (σ := sg) (wd hw 12 rfl) rfl rfl (dc.g 8 rfl) (Wd := 1) (Nat.le_of_eq rfl) (by decide) ?_
  intro f cK hmd hfn
  show Go κ _ T32 20 #[.val (.ref d), .val (.int (5 : Int32))] [(.ref f), (.ref x22)]
  refine w33.callS (wd hw 15 rfl) (wd hw 16 rfl) (wd hw 17 rfl) (wd hw 18 rfl) (by decide) (argsL := [(.ref x22), (.ref f)]) (Wd := 0) (Ctr.pays (len := 3) (Wd := 0) (c_setall l Z a0 hw hEL (w33.old ozs) F1 (n := 5) (by simp) (by decide) (by rw [g23]; exact oz.1) hmd hfn) w33 (wd hw 18 rfl) (wd hw 17 rfl) hEL (by decide) (by decide) sfNil) pd2 rfl (st := []) rfl rfl (Nat.le_of_eq rfl) (dc.g 9 rfl) (by decide) (by decide) ?_
  intro vm34 T35 h36 v37 w38 C39 Q40
  obtain ⟨rfl, K2, F2⟩ := Q40
  show Go κ _ T35 23 #[.val (.ref d), .val (.int (5 : Int32))] []
  exact w38.retV (dc.g 10 rfl) (by decide) (by decide) (fun S hS => ⟨rfl, K1.trans K2 (allS (Or.inr (by rw [g23]; exact Nat.le_refl _)) all0), X2.keep K2, x22, G1.keep K2 (ninS (Ne.symm hne) nin0), by rw [g23]; exact Nat.le_refl _, F2⟩)
def D_root : List (Nat × Instr × Nat) := [(0, .iload_n 1, 1), (1, .istore_n 2, 1), (2, .aload_n 0, 1), (3, .getfield 7, 3), (6, .iload_n 2, 1), (7, .iaload, 1), (8, .iload_n 2, 1), (9, .if_icmp .eq 13, 3), (12, .aload_n 0, 1), (13, .getfield 7, 3), (16, .iload_n 2, 1), (17, .iaload, 1), (18, .istore_n 2, 1), (19, .goto (-17), 3), (22, .aload_n 0, 1), (23, .getfield 7, 3), (26, .iload_n 1, 1), (27, .iaload, 1), (28, .iload_n 2, 1), (29, .if_icmp .eq 22, 3), (32, .aload_n 0, 1), (33, .getfield 7, 3), (36, .iload_n 1, 1), (37, .iaload, 1), (38, .istore_n 3, 1), (39, .aload_n 0, 1), (40, .getfield 7, 3), (43, .iload_n 1, 1), (44, .iload_n 2, 1), (45, .iastore, 1), (46, .iload_n 3, 1), (47, .istore_n 1, 1), (48, .goto (-26), 3), (51, .iload_n 2, 1), (52, .ireturn, 1)]
theorem hD_root : ∀ q ∈ D_root, decode prog_32_method_2_code q.1 = .ok q.2 := by decide +kernel
set_option maxRecDepth 65536 in
set_option maxHeartbeats 4000000 in
theorem c_root (l : Launch) (Z : State) (a0 : Array Value) (hw : ∀ d ∈ tables_1, d.before a0 Z = true) (hEL : EW Z a0 []) {d A : Addr} {qs : List Nat} {ρ : Nat → Nat} {n x : Nat} {h : Heap} (X : Exa Z h d "com/example/isomark/isomark/DisjointSets") (FP : Fld Z h d "com/example/isomark/isomark/DisjointSets" "parent" "[I" (.ref A)) (FA : Ary Z h A .int (ns qs)) (RP : Rep qs ρ n) (hn : n ≤ 5) (hx : x < n) (hA0 : Z.heap.size ≤ A) : Ctr l Z [] (⟨"com/example/isomark/isomark/DisjointSets", "root", "(I)I"⟩ : MethodName) prog_32_method_2_code 4 (some .int) [] ({ frames := 0, cells := 0, slots := 0, locals := 0 } : Room) [] #[(.ref d), (.int (Int32.ofNat x))] h (fun v h' S => ∃ qs', v = some (.int (Int32.ofNat (ρ x))) ∧ Keep h h' [A] ∧ Ary Z h' A .int (ns qs') ∧ Rep qs' ρ n) := by
  refine enter (a0 := a0) (by first | (simp [plainName, overriddenIn]; done) | decide +kernel) hEL (Ls := #[.val (.ref d), .val (.int (Int32.ofNat x)), .unset, .unset]) (fun m => by first | (simp [entryFrame, mkF, argsToLocals, Value.category]; done) | rfl) ?_
  intro κ vm T hby hs w Sf
  have dc := Dec.of hby hD_root
  show Go κ (GQ κ Z [] ({ frames := 0, cells := 0, slots := 0, locals := 0 } : Room) (fun v h' S => ∃ qs', v = some (.int (Int32.ofNat (ρ x))) ∧ Keep h h' [A] ∧ Ary Z h' A .int (ns qs') ∧ Rep qs' ρ n)) T 0 #[.val (.ref d), .val (.int (Int32.ofNat x)), .unset, .unset] []
  have hAd : A ≠ d := FA.ne_exa X (wd hw 1 rfl)
  have hrx := RP.lt hx
  have key2 : ∀ (g k x' : Nat) (qs' : List Nat), k ≤ g → x' < n → Rep qs' ρ n → Rn qs' k x' (ρ x) → ∀ (T1 : State) (h1 : Heap) (s3 : Slot), W κ l ({ frames := 0, cells := 0, slots := 0, locals := 0 } : Room) Z [] "com/example/isomark/isomark/DisjointSets" "root" 4 (some .int) vm T1 h1 0 0 → Fld Z h1 d "com/example/isomark/isomark/DisjointSets" "parent" "[I" (.ref A) → Ary Z h1 A .int (ns qs') → Keep h h1 [A] → One s3 → Go κ (GQ κ Z [] ({ frames := 0, cells := 0, slots := 0, locals := 0 } : Room) (fun v h' S => ∃ qs', v = some (.int (Int32.ofNat (ρ x))) ∧ Keep h h' [A] ∧ Ary Z h' A .int (ns qs') ∧ Rep qs' ρ n)) T1 22 #[.val (.ref d), .val (.int (Int32.ofNat x')), .val (.int (Int32.ofNat (ρ x))), s3] [] := by
    intro g
    induction g with
    | zero =>
      intro k x' qs' hk hx' R1 hR T1 h1 s3 w1 P1 F1 K1 hs3
      have hl1 := R1.1
      obtain ⟨y, hy, hcase⟩ : ∃ y, qs'[x']? = some y ∧ (y = ρ x ∨ (¬ y = ρ x ∧ ∃ k', k' + 1 = k ∧ Rn qs' k' y (ρ x))) := by
        cases k with
        | zero => exact ⟨x', hR.2, Or.inl hR.1⟩
        | succ k' =>
          obtain ⟨y, a1, a2, a3⟩ := hR
          by_cases q : y = ρ x
          · exact ⟨y, a1, Or.inl q⟩
          · exact ⟨y, a1, Or.inr ⟨q, k', rfl, a3⟩⟩
      have hyn : y < n := R1.2.1 y (List.mem_of_getElem? hy)
      show Go κ _ T1 22 #[.val (.ref d), .val (.int (Int32.ofNat x')), .val (.int (Int32.ofNat (ρ x))), s3] []
      refine blk (pc' := 23) (Ls' := #[.val (.ref d), .val (.int (Int32.ofNat x')), .val (.int (Int32.ofNat (ρ x))), s3]) (st' := [(.ref d)]) [oAloadN w1.ok (dc.g 14 rfl)] rfl ?_
      refine w1.get (wd hw 10 rfl) P1 (dc.g 15 rfl) ?_
      intro T41 w42
      show Go κ _ T41 26 #[.val (.ref d), .val (.int (Int32.ofNat x')), .val (.int (Int32.ofNat (ρ x))), s3] [(.ref A)]
      refine blk (pc' := 27) (Ls' := #[.val (.ref d), .val (.int (Int32.ofNat x')), .val (.int (Int32.ofNat (ρ x))), s3]) (st' := [(.int (Int32.ofNat x')), (.ref A)]) [oIloadN w42.ok (dc.g 16 rfl)] rfl ?_
      refine w42.ild F1 (i := x') rfl (ns_at hy) (dc.g 17 rfl) ?_
      show Go κ _ T41 28 #[.val (.ref d), .val (.int (Int32.ofNat x')), .val (.int (Int32.ofNat (ρ x))), s3] [(.int (Int32.ofNat y))]
      refine blk (pc' := 29) (Ls' := #[.val (.ref d), .val (.int (Int32.ofNat x')), .val (.int (Int32.ofNat (ρ x))), s3]) (st' := [(.int (Int32.ofNat (ρ x))), (.int (Int32.ofNat y))]) [oIloadN w42.ok (dc.g 18 rfl)] rfl ?_
      rcases hcase with rfl | ⟨hne, k', hk', hR'⟩
      · show Go κ _ T41 29 #[.val (.ref d), .val (.int (Int32.ofNat x')), .val (.int (Int32.ofNat (ρ x))), s3] [(.int (Int32.ofNat (ρ x))), (.int (Int32.ofNat (ρ x)))]
        refine cEq (pc' := 51) w42.ok (dc.g 19 rfl) (by decide) (by decide) (fun hc43 => ?_) (fun hc43 => absurd rfl hc43)
        show Go κ _ T41 51 #[.val (.ref d), .val (.int (Int32.ofNat x')), .val (.int (Int32.ofNat (ρ x))), s3] []
        refine blk (pc' := 52) (Ls' := #[.val (.ref d), .val (.int (Int32.ofNat x')), .val (.int (Int32.ofNat (ρ x))), s3]) (st' := [(.int (Int32.ofNat (ρ x)))]) [oIloadN w42.ok (dc.g 33 rfl)] rfl ?_
        exact w42.retI (t := .int) rfl (Or.inl rfl) rfl (dc.g 34 rfl) (by decide) (by decide) (fun S hS => ⟨qs', rfl, K1, F1, R1⟩)
      · omega
    | succ g ih =>
      intro k x' qs' hk hx' R1 hR T1 h1 s3 w1 P1 F1 K1 hs3
      have hl1 := R1.1
      obtain ⟨y, hy, hcase⟩ : ∃ y, qs'[x']? = some y ∧ (y = ρ x ∨ (¬ y = ρ x ∧ ∃ k', k' + 1 = k ∧ Rn qs' k' y (ρ x))) := by
        cases k with
        | zero => exact ⟨x', hR.2, Or.inl hR.1⟩
        | succ k' =>
          obtain ⟨y, a1, a2, a3⟩ := hR
          by_cases q : y = ρ x
          · exact ⟨y, a1, Or.inl q⟩
          · exact ⟨y, a1, Or.inr ⟨q, k', rfl, a3⟩⟩
      have hyn : y < n := R1.2.1 y (List.mem_of_getElem? hy)
      show Go κ _ T1 22 #[.val (.ref d), .val (.int (Int32.ofNat x')), .val (.int (Int32.ofNat (ρ x))), s3] []
      refine blk (pc' := 23) (Ls' := #[.val (.ref d), .val (.int (Int32.ofNat x')), .val (.int (Int32.ofNat (ρ x))), s3]) (st' := [(.ref d)]) [oAloadN w1.ok (dc.g 14 rfl)] rfl ?_
      refine w1.get (wd hw 10 rfl) P1 (dc.g 15 rfl) ?_
      intro T44 w45
      show Go κ _ T44 26 #[.val (.ref d), .val (.int (Int32.ofNat x')), .val (.int (Int32.ofNat (ρ x))), s3] [(.ref A)]
      refine blk (pc' := 27) (Ls' := #[.val (.ref d), .val (.int (Int32.ofNat x')), .val (.int (Int32.ofNat (ρ x))), s3]) (st' := [(.int (Int32.ofNat x')), (.ref A)]) [oIloadN w45.ok (dc.g 16 rfl)] rfl ?_
      refine w45.ild F1 (i := x') rfl (ns_at hy) (dc.g 17 rfl) ?_
      show Go κ _ T44 28 #[.val (.ref d), .val (.int (Int32.ofNat x')), .val (.int (Int32.ofNat (ρ x))), s3] [(.int (Int32.ofNat y))]
      refine blk (pc' := 29) (Ls' := #[.val (.ref d), .val (.int (Int32.ofNat x')), .val (.int (Int32.ofNat (ρ x))), s3]) (st' := [(.int (Int32.ofNat (ρ x))), (.int (Int32.ofNat y))]) [oIloadN w45.ok (dc.g 18 rfl)] rfl ?_
      rcases hcase with rfl | ⟨hne, k', hk', hR'⟩
      · show Go κ _ T44 29 #[.val (.ref d), .val (.int (Int32.ofNat x')), .val (.int (Int32.ofNat (ρ x))), s3] [(.int (Int32.ofNat (ρ x))), (.int (Int32.ofNat (ρ x)))]
        refine cEq (pc' := 51) w45.ok (dc.g 19 rfl) (by decide) (by decide) (fun hc46 => ?_) (fun hc46 => absurd rfl hc46)
        show Go κ _ T44 51 #[.val (.ref d), .val (.int (Int32.ofNat x')), .val (.int (Int32.ofNat (ρ x))), s3] []
        refine blk (pc' := 52) (Ls' := #[.val (.ref d), .val (.int (Int32.ofNat x')), .val (.int (Int32.ofNat (ρ x))), s3]) (st' := [(.int (Int32.ofNat (ρ x)))]) [oIloadN w45.ok (dc.g 33 rfl)] rfl ?_
        exact w45.retI (t := .int) rfl (Or.inl rfl) rfl (dc.g 34 rfl) (by decide) (by decide) (fun S hS => ⟨qs', rfl, K1, F1, R1⟩)
      · show Go κ _ T44 29 #[.val (.ref d), .val (.int (Int32.ofNat x')), .val (.int (Int32.ofNat (ρ x))), s3] [(.int (Int32.ofNat (ρ x))), (.int (Int32.ofNat y))]
        refine cEq (pc' := 51) w45.ok (dc.g 19 rfl) (by decide) (by decide) (fun hc47 => absurd hc47 (fun q => hne ((ofNat_inj (by omega) (by omega)).mp q))) (fun hc47 => ?_)
        show Go κ _ T44 32 #[.val (.ref d), .val (.int (Int32.ofNat x')), .val (.int (Int32.ofNat (ρ x))), s3] []
        refine blk (pc' := 33) (Ls' := #[.val (.ref d), .val (.int (Int32.ofNat x')), .val (.int (Int32.ofNat (ρ x))), s3]) (st' := [(.ref d)]) [oAloadN w45.ok (dc.g 20 rfl)] rfl ?_
        refine w45.get (wd hw 10 rfl) P1 (dc.g 21 rfl) ?_
        intro T48 w49
        show Go κ _ T48 36 #[.val (.ref d), .val (.int (Int32.ofNat x')), .val (.int (Int32.ofNat (ρ x))), s3] [(.ref A)]
        refine blk (pc' := 37) (Ls' := #[.val (.ref d), .val (.int (Int32.ofNat x')), .val (.int (Int32.ofNat (ρ x))), s3]) (st' := [(.int (Int32.ofNat x')), (.ref A)]) [oIloadN w49.ok (dc.g 22 rfl)] rfl ?_
        refine w49.ild F1 (i := x') rfl (ns_at hy) (dc.g 23 rfl) ?_
        show Go κ _ T48 38 #[.val (.ref d), .val (.int (Int32.ofNat x')), .val (.int (Int32.ofNat (ρ x))), s3] [(.int (Int32.ofNat y))]
        refine istoreNG w49.ok (dc.g 24 rfl) rfl hs3 ?_
        show Go κ _ T48 39 #[.val (.ref d), .val (.int (Int32.ofNat x')), .val (.int (Int32.ofNat (ρ x))), .val (.int (Int32.ofNat y))] []
        refine blk (pc' := 40) (Ls' := #[.val (.ref d), .val (.int (Int32.ofNat x')), .val (.int (Int32.ofNat (ρ x))), .val (.int (Int32.ofNat y))]) (st' := [(.ref d)]) [oAloadN w49.ok (dc.g 25 rfl)] rfl ?_
        refine w49.get (wd hw 10 rfl) P1 (dc.g 26 rfl) ?_
        intro T50 w51
        show Go κ _ T50 43 #[.val (.ref d), .val (.int (Int32.ofNat x')), .val (.int (Int32.ofNat (ρ x))), .val (.int (Int32.ofNat y))] [(.ref A)]
        refine blk (pc' := 45) (Ls' := #[.val (.ref d), .val (.int (Int32.ofNat x')), .val (.int (Int32.ofNat (ρ x))), .val (.int (Int32.ofNat y))]) (st' := [(.int (Int32.ofNat (ρ x))), (.int (Int32.ofNat x')), (.ref A)]) [oIloadN w51.ok (dc.g 27 rfl), oIloadN w51.ok (dc.g 28 rfl)] rfl ?_
        refine w51.ist F1 (i := x') rfl (by simp; omega) hA0 (dc.g 29 rfl) ?_
        intro T52 h54 w53 W55 F56
        show Go κ _ T52 46 #[.val (.ref d), .val (.int (Int32.ofNat x')), .val (.int (Int32.ofNat (ρ x))), .val (.int (Int32.ofNat y))] []
        obtain ⟨slW55, vvW55, WW55⟩ := W55
        refine blk (pc' := 22) (Ls' := #[.val (.ref d), .val (.int (Int32.ofNat y)), .val (.int (Int32.ofNat (ρ x))), .val (.int (Int32.ofNat y))]) (st' := []) [oIloadN w53.ok (dc.g 30 rfl), oIstoreN w53.ok (dc.g 31 rfl), oGoto w53.ok 22 (dc.g 32 rfl)] rfl ?_
        have ery : ρ y = ρ x := by obtain ⟨j, hj⟩ := R1.2.2 y hyn; exact Rn.fn hj hR'
        have erx : ρ x' = ρ x := by obtain ⟨j, hj⟩ := R1.2.2 x' hx'; exact Rn.fn hj hR
        have R2 : Rep (qs'.set x' (ρ x)) ρ n := by rw [← erx]; exact R1.comp hx'
        obtain ⟨k2, hk2, hR2⟩ := Rn.comp hR (by omega) hR'
        have e3 : (ns qs').set x' (Int32.ofNat (ρ x)) = ns (qs'.set x' (ρ x)) := by rw [ns, ns, List.map_set]
        rw [e3] at F56
        exact ih k2 y _ (by omega) hyn R2 hR2 _ _ _ w53 (P1.other WW55 (Or.inl (Ne.symm hAd))) F56 (K1.wr WW55 (Or.inl (List.mem_of_getElem? (i := 0) rfl))) (One.val rfl)
  have key1 : ∀ (k z : Nat), z < n → Rn qs k z (ρ x) → ∀ (T1 : State), W κ l ({ frames := 0, cells := 0, slots := 0, locals := 0 } : Room) Z [] "com/example/isomark/isomark/DisjointSets" "root" 4 (some .int) vm T1 h 0 0 → Go κ (GQ κ Z [] ({ frames := 0, cells := 0, slots := 0, locals := 0 } : Room) (fun v h' S => ∃ qs', v = some (.int (Int32.ofNat (ρ x))) ∧ Keep h h' [A] ∧ Ary Z h' A .int (ns qs') ∧ Rep qs' ρ n)) T1 2 #[.val (.ref d), .val (.int (Int32.ofNat x)), .val (.int (Int32.ofNat z)), .unset] [] := by
    intro k
    induction k with
    | zero =>
      intro z hz hR T1 w1
      obtain ⟨rfl, hR⟩ := hR
      show Go κ _ T1 2 #[.val (.ref d), .val (.int (Int32.ofNat x)), .val (.int (Int32.ofNat (ρ x))), .unset] []
      refine blk (pc' := 3) (Ls' := #[.val (.ref d), .val (.int (Int32.ofNat x)), .val (.int (Int32.ofNat (ρ x))), .unset]) (st' := [(.ref d)]) [oAloadN w1.ok (dc.g 2 rfl)] rfl ?_
      refine w1.get (wd hw 10 rfl) FP (dc.g 3 rfl) ?_
      intro T57 w58
      show Go κ _ T57 6 #[.val (.ref d), .val (.int (Int32.ofNat x)), .val (.int (Int32.ofNat (ρ x))), .unset] [(.ref A)]
      refine blk (pc' := 7) (Ls' := #[.val (.ref d), .val (.int (Int32.ofNat x)), .val (.int (Int32.ofNat (ρ x))), .unset]) (st' := [(.int (Int32.ofNat (ρ x))), (.ref A)]) [oIloadN w58.ok (dc.g 4 rfl)] rfl ?_
      refine w58.ild FA (i := (ρ x)) rfl (ns_at hR) (dc.g 5 rfl) ?_
      show Go κ _ T57 8 #[.val (.ref d), .val (.int (Int32.ofNat x)), .val (.int (Int32.ofNat (ρ x))), .unset] [(.int (Int32.ofNat (ρ x)))]
      refine blk (pc' := 9) (Ls' := #[.val (.ref d), .val (.int (Int32.ofNat x)), .val (.int (Int32.ofNat (ρ x))), .unset]) (st' := [(.int (Int32.ofNat (ρ x))), (.int (Int32.ofNat (ρ x)))]) [oIloadN w58.ok (dc.g 6 rfl)] rfl ?_
      refine cEq (pc' := 22) w58.ok (dc.g 7 rfl) (by decide) (by decide) (fun hc59 => ?_) (fun hc59 => absurd rfl hc59)
      show Go κ _ T57 22 #[.val (.ref d), .val (.int (Int32.ofNat x)), .val (.int (Int32.ofNat (ρ x))), .unset] []
      obtain ⟨k0, hk0⟩ := RP.2.2 x hx
      exact key2 k0 k0 x qs (Nat.le_refl _) hx RP hk0 _ _ _ w58 FP FA (Keep.refl _ _) One.u
    | succ k ih =>
      intro z hz hR T1 w1
      obtain ⟨y, h1, h2, h3⟩ := hR
      have hyn : y < n := RP.2.1 y (List.mem_of_getElem? h1)
      show Go κ _ T1 2 #[.val (.ref d), .val (.int (Int32.ofNat x)), .val (.int (Int32.ofNat z)), .unset] []
      refine blk (pc' := 3) (Ls' := #[.val (.ref d), .val (.int (Int32.ofNat x)), .val (.int (Int32.ofNat z)), .unset]) (st' := [(.ref d)]) [oAloadN w1.ok (dc.g 2 rfl)] rfl ?_
      refine w1.get (wd hw 10 rfl) FP (dc.g 3 rfl) ?_
      intro T60 w61
      show Go κ _ T60 6 #[.val (.ref d), .val (.int (Int32.ofNat x)), .val (.int (Int32.ofNat z)), .unset] [(.ref A)]
      refine blk (pc' := 7) (Ls' := #[.val (.ref d), .val (.int (Int32.ofNat x)), .val (.int (Int32.ofNat z)), .unset]) (st' := [(.int (Int32.ofNat z)), (.ref A)]) [oIloadN w61.ok (dc.g 4 rfl)] rfl ?_
      refine w61.ild FA (i := z) rfl (ns_at h1) (dc.g 5 rfl) ?_
      show Go κ _ T60 8 #[.val (.ref d), .val (.int (Int32.ofNat x)), .val (.int (Int32.ofNat z)), .unset] [(.int (Int32.ofNat y))]
      refine blk (pc' := 9) (Ls' := #[.val (.ref d), .val (.int (Int32.ofNat x)), .val (.int (Int32.ofNat z)), .unset]) (st' := [(.int (Int32.ofNat z)), (.int (Int32.ofNat y))]) [oIloadN w61.ok (dc.g 6 rfl)] rfl ?_
      refine cEq (pc' := 22) w61.ok (dc.g 7 rfl) (by decide) (by decide) (fun hc62 => absurd hc62 (fun q => h2 ((ofNat_inj (by omega) (by omega)).mp q))) (fun hc62 => ?_)
      show Go κ _ T60 12 #[.val (.ref d), .val (.int (Int32.ofNat x)), .val (.int (Int32.ofNat z)), .unset] []
      refine blk (pc' := 13) (Ls' := #[.val (.ref d), .val (.int (Int32.ofNat x)), .val (.int (Int32.ofNat z)), .unset]) (st' := [(.ref d)]) [oAloadN w61.ok (dc.g 8 rfl)] rfl ?_
      refine w61.get (wd hw 10 rfl) FP (dc.g 9 rfl) ?_
      intro T63 w64
      show Go κ _ T63 16 #[.val (.ref d), .val (.int (Int32.ofNat x)), .val (.int (Int32.ofNat z)), .unset] [(.ref A)]
      refine blk (pc' := 17) (Ls' := #[.val (.ref d), .val (.int (Int32.ofNat x)), .val (.int (Int32.ofNat z)), .unset]) (st' := [(.int (Int32.ofNat z)), (.ref A)]) [oIloadN w64.ok (dc.g 10 rfl)] rfl ?_
      refine w64.ild FA (i := z) rfl (ns_at h1) (dc.g 11 rfl) ?_
      show Go κ _ T63 18 #[.val (.ref d), .val (.int (Int32.ofNat x)), .val (.int (Int32.ofNat z)), .unset] [(.int (Int32.ofNat y))]
      refine blk (pc' := 2) (Ls' := #[.val (.ref d), .val (.int (Int32.ofNat x)), .val (.int (Int32.ofNat y)), .unset]) (st' := []) [oIstoreN w64.ok (dc.g 12 rfl), oGoto w64.ok 2 (dc.g 13 rfl)] rfl ?_
      exact ih y hyn h3 _ w64
  refine blk (pc' := 2) (Ls' := #[.val (.ref d), .val (.int (Int32.ofNat x)), .val (.int (Int32.ofNat x)), .unset]) (st' := []) [oIloadN w.ok (dc.g 0 rfl), oIstoreN w.ok (dc.g 1 rfl)] rfl ?_
  obtain ⟨k0, hk0⟩ := RP.2.2 x hx
  exact key1 k0 x hx hk0 _ w
def D_join : List (Nat × Instr × Nat) := [(0, .aload_n 0, 1), (1, .getfield 7, 3), (4, .aload_n 0, 1), (5, .iload_n 1, 1), (6, .invokevirtual 23, 3), (9, .aload_n 0, 1), (10, .iload_n 2, 1), (11, .invokevirtual 23, 3), (14, .iastore, 1), (15, .return_, 1)]
theorem hD_join : ∀ q ∈ D_join, decode prog_32_method_3_code q.1 = .ok q.2 := by decide +kernel
set_option maxRecDepth 65536 in
set_option maxHeartbeats 4000000 in
theorem c_join (l : Launch) (Z : State) (a0 : Array Value) (hw : ∀ d ∈ tables_1, d.before a0 Z = true) (hEL : EW Z a0 []) {d A : Addr} {qs : List Nat} {ρ : Nat → Nat} {n i j : Nat} {h : Heap} (X : Exa Z h d "com/example/isomark/isomark/DisjointSets") (FP : Fld Z h d "com/example/isomark/isomark/DisjointSets" "parent" "[I" (.ref A)) (FA : Ary Z h A .int (ns qs)) (RP : Rep qs ρ n) (hn : n ≤ 5) (hi : i < n) (hj : j < n) (hA0 : Z.heap.size ≤ A) : Ctr l Z [] (⟨"com/example/isomark/isomark/DisjointSets", "join", "(II)V"⟩ : MethodName) prog_32_method_3_code 3 none [] ({ frames := 1, cells := 0, slots := 0, locals := 20 } : Room) [] #[(.ref d), (.int (Int32.ofNat i)), (.int (Int32.ofNat j))] h (fun v h' S => v = none ∧ ∃ qs', Keep h h' [A] ∧ Ary Z h' A .int (ns qs') ∧ Rep qs' (fun x => if ρ x = ρ i then ρ j else ρ x) n) := by
  refine enter (a0 := a0) (by first | (simp [plainName, overriddenIn]; done) | decide +kernel) hEL (Ls := #[.val (.ref d), .val (.int (Int32.ofNat i)), .val (.int (Int32.ofNat j))]) (fun m => by first | (simp [entryFrame, mkF, argsToLocals, Value.category]; done) | rfl) ?_
  intro κ vm T hby hs w Sf
  have dc := Dec.of hby hD_join
  show Go κ (GQ κ Z [] ({ frames := 1, cells := 0, slots := 0, locals := 20 } : Room) (fun v h' S => v = none ∧ ∃ qs', Keep h h' [A] ∧ Ary Z h' A .int (ns qs') ∧ Rep qs' (fun x => if ρ x = ρ i then ρ j else ρ x) n)) T 0 #[.val (.ref d), .val (.int (Int32.ofNat i)), .val (.int (Int32.ofNat j))] []
  have hAd : A ≠ d := FA.ne_exa X (wd hw 1 rfl)
  refine blk (pc' := 1) (Ls' := #[.val (.ref d), .val (.int (Int32.ofNat i)), .val (.int (Int32.ofNat j))]) (st' := [(.ref d)]) [oAloadN w.ok (dc.g 0 rfl)] rfl ?_
  refine w.get (wd hw 10 rfl) FP (dc.g 1 rfl) ?_
  intro T65 w66
  show Go κ _ T65 4 #[.val (.ref d), .val (.int (Int32.ofNat i)), .val (.int (Int32.ofNat j))] [(.ref A)]
  refine blk (pc' := 6) (Ls' := #[.val (.ref d), .val (.int (Int32.ofNat i)), .val (.int (Int32.ofNat j))]) (st' := [(.int (Int32.ofNat i)), (.ref d), (.ref A)]) [oAloadN w66.ok (dc.g 2 rfl), oIloadN w66.ok (dc.g 3 rfl)] rfl ?_
  refine w66.callV (wd hw 38 rfl) (wd hw 39 rfl) (notFace (wd hw 41 rfl)) (wd hw 41 rfl) (wd hw 40 rfl) (by decide) (a := d) X (argsL := [(.int (Int32.ofNat i))]) (Wd := 1) (Ctr.pays (len := 3) (Wd := 1) (c_root l Z a0 hw hEL X FP FA RP hn hi hA0) w66 (wd hw 42 rfl) (wd hw 2 rfl) hEL (by decide) (by decide) sfNil) pd1 rfl (st := [(.ref A)]) rfl rfl (Nat.le_of_eq rfl) (dc.g 4 rfl) (by decide) (by decide) ?_
  intro vm67 T68 h69 v70 w71 C72 Q73
  obtain ⟨q1, rfl, K1, F1, R1⟩ := Q73
  have X1 := X.keep K1
  have P1 := FP.keep K1 (ninS (Ne.symm hAd) nin0)
  show Go κ _ T68 9 #[.val (.ref d), .val (.int (Int32.ofNat i)), .val (.int (Int32.ofNat j))] [(.int (Int32.ofNat (ρ i))), (.ref A)]
  refine blk (pc' := 11) (Ls' := #[.val (.ref d), .val (.int (Int32.ofNat i)), .val (.int (Int32.ofNat j))]) (st' := [(.int (Int32.ofNat j)), (.ref d), (.int (Int32.ofNat (ρ i))), (.ref A)]) [oAloadN w71.ok (dc.g 5 rfl), oIloadN w71.ok (dc.g 6 rfl)] rfl ?_
  refine w71.callV (wd hw 38 rfl) (wd hw 39 rfl) (notFace (wd hw 41 rfl)) (wd hw 41 rfl) (wd hw 40 rfl) (by decide) (a := d) X1 (argsL := [(.int (Int32.ofNat j))]) (Wd := 2) (Ctr.pays (len := 3) (Wd := 2) (c_root l Z a0 hw hEL X1 P1 F1 R1 hn hj hA0) w71 (wd hw 42 rfl) (wd hw 2 rfl) hEL (by decide) (by decide) sfNil) pd1 rfl (st := [(.int (Int32.ofNat (ρ i))), (.ref A)]) rfl rfl (Nat.le_of_eq rfl) (dc.g 7 rfl) (by decide) (by decide) ?_
  intro vm74 T75 h76 v77 w78 C79 Q80
  obtain ⟨q2, rfl, K2, F2, R2⟩ := Q80
  show Go κ _ T75 14 #[.val (.ref d), .val (.int (Int32.ofNat i)), .val (.int (Int32.ofNat j))] [(.int (Int32.ofNat (ρ j))), (.int (Int32.ofNat (ρ i))), (.ref A)]
  have hl2 := R2.1
  have hri := R2.lt hi
  refine w78.ist F2 (i := (ρ i)) rfl (by simp; omega) hA0 (dc.g 8 rfl) ?_
  intro T81 h83 w82 W84 F85
  show Go κ _ T81 15 #[.val (.ref d), .val (.int (Int32.ofNat i)), .val (.int (Int32.ofNat j))] []
  obtain ⟨slW84, vvW84, WW84⟩ := W84
  have e3 : (ns q2).set (ρ i) (Int32.ofNat (ρ j)) = ns (q2.set (ρ i) (ρ j)) := by rw [ns, ns, List.map_set]
  rw [e3] at F85
  exact w82.retV (dc.g 9 rfl) (by decide) (by decide) (fun S hS => ⟨rfl, _, (K1.trans K2 (allS (Or.inl (List.mem_of_getElem? (i := 0) rfl)) all0)).wr WW84 (Or.inl (List.mem_of_getElem? (i := 0) rfl)), F85, R2.join hi hj⟩)
def D_rlb : List (Nat × Instr × Nat) := [(0, .aload_n 0, 1), (1, .iconst 0, 1), (2, .iaload, 1), (3, .iload_n 1, 1), (4, .if_icmp .ne 7, 3), (7, .aload_n 0, 1), (8, .iconst 0, 1), (9, .iload_n 2, 1), (10, .iastore, 1), (11, .aload_n 0, 1), (12, .iconst 1, 1), (13, .iaload, 1), (14, .iload_n 1, 1), (15, .if_icmp .ne 7, 3), (18, .aload_n 0, 1), (19, .iconst 1, 1), (20, .iload_n 2, 1), (21, .iastore, 1), (22, .aload_n 0, 1), (23, .iconst 2, 1), (24, .iaload, 1), (25, .iload_n 1, 1), (26, .if_icmp .ne 7, 3), (29, .aload_n 0, 1), (30, .iconst 2, 1), (31, .iload_n 2, 1), (32, .iastore, 1), (33, .aload_n 0, 1), (34, .iconst 3, 1), (35, .iaload, 1), (36, .iload_n 1, 1), (37, .if_icmp .ne 7, 3), (40, .aload_n 0, 1), (41, .iconst 3, 1), (42, .iload_n 2, 1), (43, .iastore, 1), (44, .aload_n 0, 1), (45, .iconst 4, 1), (46, .iaload, 1), (47, .iload_n 1, 1), (48, .if_icmp .ne 7, 3), (51, .aload_n 0, 1), (52, .iconst 4, 1), (53, .iload_n 2, 1), (54, .iastore, 1), (55, .return_, 1)]
theorem hD_rlb : ∀ q ∈ D_rlb, decode method_4_code q.1 = .ok q.2 := by decide +kernel
set_option maxRecDepth 65536 in
set_option maxHeartbeats 4000000 in
theorem c_rlb (l : Launch) (Z : State) (a0 : Array Value) (hw : ∀ d ∈ tables_1, d.before a0 Z = true) (hEL : EW Z a0 []) {y : Addr} {L : Nat → Int32} {p q : Int32} {h : Heap} (F : Ary Z h y .int ([L 0, L 1, L 2, L 3, L 4] : List Int32)) (hy0 : Z.heap.size ≤ y) : Ctr l Z [] (⟨"com/example/isomark/isomark/DisjointSetsRootPinLaw", "relabel", "([III)V"⟩ : MethodName) method_4_code 3 none [] ({ frames := 0, cells := 0, slots := 0, locals := 0 } : Room) [] #[(.ref y), (.int p), (.int q)] h (fun v h' S => v = none ∧ Keep h h' [y] ∧ Ary Z h' y .int ([(if L 0 = p then q else L 0), (if L 1 = p then q else L 1), (if L 2 = p then q else L 2), (if L 3 = p then q else L 3), (if L 4 = p then q else L 4)] : List Int32)) := by
  refine enter (a0 := a0) (by first | (simp [plainName, overriddenIn]; done) | decide +kernel) hEL (Ls := #[.val (.ref y), .val (.int p), .val (.int q)]) (fun m => by first | (simp [entryFrame, mkF, argsToLocals, Value.category]; done) | rfl) ?_
  intro κ vm T hby hs w Sf
  have dc := Dec.of hby hD_rlb
  show Go κ (GQ κ Z [] ({ frames := 0, cells := 0, slots := 0, locals := 0 } : Room) (fun v h' S => v = none ∧ Keep h h' [y] ∧ Ary Z h' y .int ([(if L 0 = p then q else L 0), (if L 1 = p then q else L 1), (if L 2 = p then q else L 2), (if L 3 = p then q else L 3), (if L 4 = p then q else L 4)] : List Int32))) T 0 #[.val (.ref y), .val (.int p), .val (.int q)] []
  suffices k11 : ∀ (T9000 : State) (h9000 : Heap), W κ l ({ frames := 0, cells := 0, slots := 0, locals := 0 } : Room) Z [] "com/example/isomark/isomark/DisjointSetsRootPinLaw" "relabel" 3 none vm T9000 h9000 0 0 → Ary Z h9000 y .int ([(if L 0 = p then q else L 0), (L 1), (L 2), (L 3), (L 4)] : List Int32) → Keep h h9000 [y] → Go κ (GQ κ Z [] ({ frames := 0, cells := 0, slots := 0, locals := 0 } : Room) (fun v h' S => v = none ∧ Keep h h' [y] ∧ Ary Z h' y .int ([(if L 0 = p then q else L 0), (if L 1 = p then q else L 1), (if L 2 = p then q else L 2), (if L 3 = p then q else L 3), (if L 4 = p then q else L 4)] : List Int32))) T9000 11 #[.val (.ref y), .val (.int p), .val (.int q)] [] by
    refine blk (pc' := 2) (Ls' := #[.val (.ref y), .val (.int p), .val (.int q)]) (st' := [(.int (0 : Int32)), (.ref y)]) [oAloadN w.ok (dc.g 0 rfl), oIconst w.ok (dc.g 1 rfl)] rfl ?_
    refine w.ild F (i := 0) rfl rfl (dc.g 2 rfl) ?_
    show Go κ _ T 3 #[.val (.ref y), .val (.int p), .val (.int q)] [(.int (L 0))]
    refine blk (pc' := 4) (Ls' := #[.val (.ref y), .val (.int p), .val (.int q)]) (st' := [(.int p), (.int (L 0))]) [oIloadN w.ok (dc.g 3 rfl)] rfl ?_
    refine cNe (pc' := 11) w.ok (dc.g 4 rfl) (by decide) (by decide) (fun hc86 => ?_) (fun hc86 => ?_)
    · show Go κ _ T 11 #[.val (.ref y), .val (.int p), .val (.int q)] []
      exact k11 _ _ w (by rw [if_neg hc86]; exact F) (Keep.refl h [y])
    · show Go κ _ T 7 #[.val (.ref y), .val (.int p), .val (.int q)] []
      refine blk (pc' := 10) (Ls' := #[.val (.ref y), .val (.int p), .val (.int q)]) (st' := [(.int q), (.int (0 : Int32)), (.ref y)]) [oAloadN w.ok (dc.g 5 rfl), oIconst w.ok (dc.g 6 rfl), oIloadN w.ok (dc.g 7 rfl)] rfl ?_
      refine w.ist F (i := 0) rfl (by simp) hy0 (dc.g 8 rfl) ?_
      intro T87 h89 w88 W90 F91
      show Go κ _ T87 11 #[.val (.ref y), .val (.int p), .val (.int q)] []
      obtain ⟨slW90, vvW90, WW90⟩ := W90
      exact k11 _ _ w88 (by rw [if_pos hc86]; exact F91) ((Keep.refl h [y]).wr WW90 (Or.inl (List.mem_of_getElem? (i := 0) rfl)))
  intro T9000 h9000 w9000 F9000 K9000
  show Go κ _ T9000 11 #[.val (.ref y), .val (.int p), .val (.int q)] []
  suffices k22 : ∀ (T9001 : State) (h9001 : Heap), W κ l ({ frames := 0, cells := 0, slots := 0, locals := 0 } : Room) Z [] "com/example/isomark/isomark/DisjointSetsRootPinLaw" "relabel" 3 none vm T9001 h9001 0 0 → Ary Z h9001 y .int ([(if L 0 = p then q else L 0), (if L 1 = p then q else L 1), (L 2), (L 3), (L 4)] : List Int32) → Keep h h9001 [y] → Go κ (GQ κ Z [] ({ frames := 0, cells := 0, slots := 0, locals := 0 } : Room) (fun v h' S => v = none ∧ Keep h h' [y] ∧ Ary Z h' y .int ([(if L 0 = p then q else L 0), (if L 1 = p then q else L 1), (if L 2 = p then q else L 2), (if L 3 = p then q else L 3), (if L 4 = p then q else L 4)] : List Int32))) T9001 22 #[.val (.ref y), .val (.int p), .val (.int q)] [] by
    refine blk (pc' := 13) (Ls' := #[.val (.ref y), .val (.int p), .val (.int q)]) (st' := [(.int (1 : Int32)), (.ref y)]) [oAloadN w9000.ok (dc.g 9 rfl), oIconst w9000.ok (dc.g 10 rfl)] rfl ?_
    refine w9000.ild F9000 (i := 1) rfl rfl (dc.g 11 rfl) ?_
    show Go κ _ T9000 14 #[.val (.ref y), .val (.int p), .val (.int q)] [(.int (L 1))]
    refine blk (pc' := 15) (Ls' := #[.val (.ref y), .val (.int p), .val (.int q)]) (st' := [(.int p), (.int (L 1))]) [oIloadN w9000.ok (dc.g 12 rfl)] rfl ?_
    refine cNe (pc' := 22) w9000.ok (dc.g 13 rfl) (by decide) (by decide) (fun hc92 => ?_) (fun hc92 => ?_)
    · show Go κ _ T9000 22 #[.val (.ref y), .val (.int p), .val (.int q)] []
      exact k22 _ _ w9000 (by rw [if_neg hc92]; exact F9000) K9000
    · show Go κ _ T9000 18 #[.val (.ref y), .val (.int p), .val (.int q)] []
      refine blk (pc' := 21) (Ls' := #[.val (.ref y), .val (.int p), .val (.int q)]) (st' := [(.int q), (.int (1 : Int32)), (.ref y)]) [oAloadN w9000.ok (dc.g 14 rfl), oIconst w9000.ok (dc.g 15 rfl), oIloadN w9000.ok (dc.g 16 rfl)] rfl ?_
      refine w9000.ist F9000 (i := 1) rfl (by simp) hy0 (dc.g 17 rfl) ?_
      intro T93 h95 w94 W96 F97
      show Go κ _ T93 22 #[.val (.ref y), .val (.int p), .val (.int q)] []
      obtain ⟨slW96, vvW96, WW96⟩ := W96
      exact k22 _ _ w94 (by rw [if_pos hc92]; exact F97) (K9000.wr WW96 (Or.inl (List.mem_of_getElem? (i := 0) rfl)))
  intro T9001 h9001 w9001 F9001 K9001
  show Go κ _ T9001 22 #[.val (.ref y), .val (.int p), .val (.int q)] []
  suffices k33 : ∀ (T9002 : State) (h9002 : Heap), W κ l ({ frames := 0, cells := 0, slots := 0, locals := 0 } : Room) Z [] "com/example/isomark/isomark/DisjointSetsRootPinLaw" "relabel" 3 none vm T9002 h9002 0 0 → Ary Z h9002 y .int ([(if L 0 = p then q else L 0), (if L 1 = p then q else L 1), (if L 2 = p then q else L 2), (L 3), (L 4)] : List Int32) → Keep h h9002 [y] → Go κ (GQ κ Z [] ({ frames := 0, cells := 0, slots := 0, locals := 0 } : Room) (fun v h' S => v = none ∧ Keep h h' [y] ∧ Ary Z h' y .int ([(if L 0 = p then q else L 0), (if L 1 = p then q else L 1), (if L 2 = p then q else L 2), (if L 3 = p then q else L 3), (if L 4 = p then q else L 4)] : List Int32))) T9002 33 #[.val (.ref y), .val (.int p), .val (.int q)] [] by
    refine blk (pc' := 24) (Ls' := #[.val (.ref y), .val (.int p), .val (.int q)]) (st' := [(.int (2 : Int32)), (.ref y)]) [oAloadN w9001.ok (dc.g 18 rfl), oIconst w9001.ok (dc.g 19 rfl)] rfl ?_
    refine w9001.ild F9001 (i := 2) rfl rfl (dc.g 20 rfl) ?_
    show Go κ _ T9001 25 #[.val (.ref y), .val (.int p), .val (.int q)] [(.int (L 2))]
    refine blk (pc' := 26) (Ls' := #[.val (.ref y), .val (.int p), .val (.int q)]) (st' := [(.int p), (.int (L 2))]) [oIloadN w9001.ok (dc.g 21 rfl)] rfl ?_
    refine cNe (pc' := 33) w9001.ok (dc.g 22 rfl) (by decide) (by decide) (fun hc98 => ?_) (fun hc98 => ?_)
    · show Go κ _ T9001 33 #[.val (.ref y), .val (.int p), .val (.int q)] []
      exact k33 _ _ w9001 (by rw [if_neg hc98]; exact F9001) K9001
    · show Go κ _ T9001 29 #[.val (.ref y), .val (.int p), .val (.int q)] []
      refine blk (pc' := 32) (Ls' := #[.val (.ref y), .val (.int p), .val (.int q)]) (st' := [(.int q), (.int (2 : Int32)), (.ref y)]) [oAloadN w9001.ok (dc.g 23 rfl), oIconst w9001.ok (dc.g 24 rfl), oIloadN w9001.ok (dc.g 25 rfl)] rfl ?_
      refine w9001.ist F9001 (i := 2) rfl (by simp) hy0 (dc.g 26 rfl) ?_
      intro T99 h101 w100 W102 F103
      show Go κ _ T99 33 #[.val (.ref y), .val (.int p), .val (.int q)] []
      obtain ⟨slW102, vvW102, WW102⟩ := W102
      exact k33 _ _ w100 (by rw [if_pos hc98]; exact F103) (K9001.wr WW102 (Or.inl (List.mem_of_getElem? (i := 0) rfl)))
  intro T9002 h9002 w9002 F9002 K9002
  show Go κ _ T9002 33 #[.val (.ref y), .val (.int p), .val (.int q)] []
  suffices k44 : ∀ (T9003 : State) (h9003 : Heap), W κ l ({ frames := 0, cells := 0, slots := 0, locals := 0 } : Room) Z [] "com/example/isomark/isomark/DisjointSetsRootPinLaw" "relabel" 3 none vm T9003 h9003 0 0 → Ary Z h9003 y .int ([(if L 0 = p then q else L 0), (if L 1 = p then q else L 1), (if L 2 = p then q else L 2), (if L 3 = p then q else L 3), (L 4)] : List Int32) → Keep h h9003 [y] → Go κ (GQ κ Z [] ({ frames := 0, cells := 0, slots := 0, locals := 0 } : Room) (fun v h' S => v = none ∧ Keep h h' [y] ∧ Ary Z h' y .int ([(if L 0 = p then q else L 0), (if L 1 = p then q else L 1), (if L 2 = p then q else L 2), (if L 3 = p then q else L 3), (if L 4 = p then q else L 4)] : List Int32))) T9003 44 #[.val (.ref y), .val (.int p), .val (.int q)] [] by
    refine blk (pc' := 35) (Ls' := #[.val (.ref y), .val (.int p), .val (.int q)]) (st' := [(.int (3 : Int32)), (.ref y)]) [oAloadN w9002.ok (dc.g 27 rfl), oIconst w9002.ok (dc.g 28 rfl)] rfl ?_
    refine w9002.ild F9002 (i := 3) rfl rfl (dc.g 29 rfl) ?_
    show Go κ _ T9002 36 #[.val (.ref y), .val (.int p), .val (.int q)] [(.int (L 3))]
    refine blk (pc' := 37) (Ls' := #[.val (.ref y), .val (.int p), .val (.int q)]) (st' := [(.int p), (.int (L 3))]) [oIloadN w9002.ok (dc.g 30 rfl)] rfl ?_
    refine cNe (pc' := 44) w9002.ok (dc.g 31 rfl) (by decide) (by decide) (fun hc104 => ?_) (fun hc104 => ?_)
    · show Go κ _ T9002 44 #[.val (.ref y), .val (.int p), .val (.int q)] []
      exact k44 _ _ w9002 (by rw [if_neg hc104]; exact F9002) K9002
    · show Go κ _ T9002 40 #[.val (.ref y), .val (.int p), .val (.int q)] []
      refine blk (pc' := 43) (Ls' := #[.val (.ref y), .val (.int p), .val (.int q)]) (st' := [(.int q), (.int (3 : Int32)), (.ref y)]) [oAloadN w9002.ok (dc.g 32 rfl), oIconst w9002.ok (dc.g 33 rfl), oIloadN w9002.ok (dc.g 34 rfl)] rfl ?_
      refine w9002.ist F9002 (i := 3) rfl (by simp) hy0 (dc.g 35 rfl) ?_
      intro T105 h107 w106 W108 F109
      show Go κ _ T105 44 #[.val (.ref y), .val (.int p), .val (.int q)] []
      obtain ⟨slW108, vvW108, WW108⟩ := W108
      exact k44 _ _ w106 (by rw [if_pos hc104]; exact F109) (K9002.wr WW108 (Or.inl (List.mem_of_getElem? (i := 0) rfl)))
  intro T9003 h9003 w9003 F9003 K9003
  show Go κ _ T9003 44 #[.val (.ref y), .val (.int p), .val (.int q)] []
  suffices k55 : ∀ (T9004 : State) (h9004 : Heap), W κ l ({ frames := 0, cells := 0, slots := 0, locals := 0 } : Room) Z [] "com/example/isomark/isomark/DisjointSetsRootPinLaw" "relabel" 3 none vm T9004 h9004 0 0 → Ary Z h9004 y .int ([(if L 0 = p then q else L 0), (if L 1 = p then q else L 1), (if L 2 = p then q else L 2), (if L 3 = p then q else L 3), (if L 4 = p then q else L 4)] : List Int32) → Keep h h9004 [y] → Go κ (GQ κ Z [] ({ frames := 0, cells := 0, slots := 0, locals := 0 } : Room) (fun v h' S => v = none ∧ Keep h h' [y] ∧ Ary Z h' y .int ([(if L 0 = p then q else L 0), (if L 1 = p then q else L 1), (if L 2 = p then q else L 2), (if L 3 = p then q else L 3), (if L 4 = p then q else L 4)] : List Int32))) T9004 55 #[.val (.ref y), .val (.int p), .val (.int q)] [] by
    refine blk (pc' := 46) (Ls' := #[.val (.ref y), .val (.int p), .val (.int q)]) (st' := [(.int (4 : Int32)), (.ref y)]) [oAloadN w9003.ok (dc.g 36 rfl), oIconst w9003.ok (dc.g 37 rfl)] rfl ?_
    refine w9003.ild F9003 (i := 4) rfl rfl (dc.g 38 rfl) ?_
    show Go κ _ T9003 47 #[.val (.ref y), .val (.int p), .val (.int q)] [(.int (L 4))]
    refine blk (pc' := 48) (Ls' := #[.val (.ref y), .val (.int p), .val (.int q)]) (st' := [(.int p), (.int (L 4))]) [oIloadN w9003.ok (dc.g 39 rfl)] rfl ?_
    refine cNe (pc' := 55) w9003.ok (dc.g 40 rfl) (by decide) (by decide) (fun hc110 => ?_) (fun hc110 => ?_)
    · show Go κ _ T9003 55 #[.val (.ref y), .val (.int p), .val (.int q)] []
      exact k55 _ _ w9003 (by rw [if_neg hc110]; exact F9003) K9003
    · show Go κ _ T9003 51 #[.val (.ref y), .val (.int p), .val (.int q)] []
      refine blk (pc' := 54) (Ls' := #[.val (.ref y), .val (.int p), .val (.int q)]) (st' := [(.int q), (.int (4 : Int32)), (.ref y)]) [oAloadN w9003.ok (dc.g 41 rfl), oIconst w9003.ok (dc.g 42 rfl), oIloadN w9003.ok (dc.g 43 rfl)] rfl ?_
      refine w9003.ist F9003 (i := 4) rfl (by simp) hy0 (dc.g 44 rfl) ?_
      intro T111 h113 w112 W114 F115
      show Go κ _ T111 55 #[.val (.ref y), .val (.int p), .val (.int q)] []
      obtain ⟨slW114, vvW114, WW114⟩ := W114
      exact k55 _ _ w112 (by rw [if_pos hc110]; exact F115) (K9003.wr WW114 (Or.inl (List.mem_of_getElem? (i := 0) rfl)))
  intro T9004 h9004 w9004 F9004 K9004
  show Go κ _ T9004 55 #[.val (.ref y), .val (.int p), .val (.int q)] []
  exact w9004.retV (dc.g 45 rfl) (by decide) (by decide) (fun S hS => ⟨rfl, K9004, F9004⟩)
def D_step : List (Nat × Instr × Nat) := [(0, .iload_n 2, 1), (1, .ldc 18, 2), (3, .iand, 1), (4, .iconst 5, 1), (5, .irem, 1), (6, .istore_n 3, 1), (7, .iload_n 2, 1), (8, .bipush 8, 2), (10, .iushr, 1), (11, .ldc 18, 2), (13, .iand, 1), (14, .iconst 5, 1), (15, .irem, 1), (16, .istore 4, 2), (18, .aload_n 0, 1), (19, .iload_n 3, 1), (20, .iload 4, 2), (22, .invokevirtual 31, 3), (25, .aload_n 1, 1), (26, .aload_n 1, 1), (27, .iload_n 3, 1), (28, .iaload, 1), (29, .aload_n 1, 1), (30, .iload 4, 2), (32, .iaload, 1), (33, .invokestatic 35, 3), (36, .return_, 1)]
theorem hD_step : ∀ q ∈ D_step, decode method_3_code q.1 = .ok q.2 := by decide +kernel
set_option maxRecDepth 65536 in
set_option maxHeartbeats 4000000 in
theorem c_step (l : Launch) (Z : State) (a0 : Array Value) (hw : ∀ d ∈ tables_1, d.before a0 Z = true) (hEL : EW Z a0 []) {d A y : Addr} {qs : List Nat} {ρ : Nat → Nat} {L : Nat → Int32} {p : Int32} {h : Heap} (X : Exa Z h d "com/example/isomark/isomark/DisjointSets") (FP : Fld Z h d "com/example/isomark/isomark/DisjointSets" "parent" "[I" (.ref A)) (FA : Ary Z h A .int (ns qs)) (RP : Rep qs ρ 5) (hA0 : Z.heap.size ≤ A) (FY : Ary Z h y .int ([L 0, L 1, L 2, L 3, L 4] : List Int32)) (hy0 : Z.heap.size ≤ y) (hyA : y ≠ A) (hI : (∀ i j, i < 5 → j < 5 → (L i = L j ↔ ρ i = ρ j))) : Ctr l Z [] (⟨"com/example/isomark/isomark/DisjointSetsRootPinLaw", "step", "(Lcom/example/isomark/isomark/DisjointSets;[II)V"⟩ : MethodName) method_3_code 5 none [] ({ frames := 2, cells := 0, slots := 0, locals := 36 } : Room) [] #[(.ref d), (.ref y), (.int p)] h (fun v h' S => v = none ∧ ∃ (qs' : List Nat) (ρ' : Nat → Nat) (L' : Nat → Int32), Keep h h' [A, y] ∧ Ary Z h' A .int (ns qs') ∧ Rep qs' ρ' 5 ∧ Ary Z h' y .int ([L' 0, L' 1, L' 2, L' 3, L' 4] : List Int32) ∧ (∀ i j, i < 5 → j < 5 → (L' i = L' j ↔ ρ' i = ρ' j))) := by
  refine enter (a0 := a0) (by first | (simp [plainName, overriddenIn]; done) | decide +kernel) hEL (Ls := #[.val (.ref d), .val (.ref y), .val (.int p), .unset, .unset]) (fun m => by first | (simp [entryFrame, mkF, argsToLocals, Value.category]; done) | rfl) ?_
  intro κ vm T hby hs w Sf
  have dc := Dec.of hby hD_step
  show Go κ (GQ κ Z [] ({ frames := 2, cells := 0, slots := 0, locals := 36 } : Room) (fun v h' S => v = none ∧ ∃ (qs' : List Nat) (ρ' : Nat → Nat) (L' : Nat → Int32), Keep h h' [A, y] ∧ Ary Z h' A .int (ns qs') ∧ Rep qs' ρ' 5 ∧ Ary Z h' y .int ([L' 0, L' 1, L' 2, L' 3, L' 4] : List Int32) ∧ (∀ i j, i < 5 → j < 5 → (L' i = L' j ↔ ρ' i = ρ' j)))) T 0 #[.val (.ref d), .val (.ref y), .val (.int p), .unset, .unset] []
  refine blk (pc' := 1) (Ls' := #[.val (.ref d), .val (.ref y), .val (.int p), .unset, .unset]) (st' := [(.int p)]) [oIloadN w.ok (dc.g 0 rfl)] rfl ?_
  refine w.ldcI (wd hw 32 rfl) (dc.g 1 rfl) ?_
  show Go κ _ T 3 #[.val (.ref d), .val (.ref y), .val (.int p), .unset, .unset] [(.int (2147483647 : Int32)), (.int p)]
  refine blk (pc' := 7) (Ls' := #[.val (.ref d), .val (.ref y), .val (.int p), .val (.int ((p &&& (2147483647 : Int32)) % (5 : Int32))), .unset]) (st' := []) [oIand w.ok (dc.g 2 rfl), oIconst w.ok (dc.g 3 rfl), oIrem w.ok (dc.g 4 rfl), oIstoreN w.ok (dc.g 5 rfl)] rfl ?_
  obtain ⟨a, ha, ea⟩ := remNat p (2147483647 : Int32) (5 : Int32) 5 (by decide) (by decide) (by decide)
  rw [ea]
  show Go κ _ T 7 #[.val (.ref d), .val (.ref y), .val (.int p), .val (.int (Int32.ofNat a)), .unset] []
  refine blk (pc' := 11) (Ls' := #[.val (.ref d), .val (.ref y), .val (.int p), .val (.int (Int32.ofNat a)), .unset]) (st' := [(.int ((p).toUInt32 >>> ((8 : Int32) &&& 31).toUInt32).toInt32)]) [oIloadN w.ok (dc.g 6 rfl), oBipush w.ok (dc.g 7 rfl), oIushr w.ok (dc.g 8 rfl)] rfl ?_
  refine w.ldcI (wd hw 32 rfl) (dc.g 9 rfl) ?_
  show Go κ _ T 13 #[.val (.ref d), .val (.ref y), .val (.int p), .val (.int (Int32.ofNat a)), .unset] [(.int (2147483647 : Int32)), (.int ((p).toUInt32 >>> ((8 : Int32) &&& 31).toUInt32).toInt32)]
  refine blk (pc' := 18) (Ls' := #[.val (.ref d), .val (.ref y), .val (.int p), .val (.int (Int32.ofNat a)), .val (.int ((((p).toUInt32 >>> ((8 : Int32) &&& 31).toUInt32).toInt32 &&& (2147483647 : Int32)) % (5 : Int32)))]) (st' := []) [oIand w.ok (dc.g 10 rfl), oIconst w.ok (dc.g 11 rfl), oIrem w.ok (dc.g 12 rfl), oIstore w.ok (dc.g 13 rfl)] rfl ?_
  obtain ⟨b, hb, eb⟩ := remNat ((p).toUInt32 >>> ((8 : Int32) &&& 31).toUInt32).toInt32 (2147483647 : Int32) (5 : Int32) 5 (by decide) (by decide) (by decide)
  rw [eb]
  show Go κ _ T 18 #[.val (.ref d), .val (.ref y), .val (.int p), .val (.int (Int32.ofNat a)), .val (.int (Int32.ofNat b))] []
  refine blk (pc' := 22) (Ls' := #[.val (.ref d), .val (.ref y), .val (.int p), .val (.int (Int32.ofNat a)), .val (.int (Int32.ofNat b))]) (st' := [(.int (Int32.ofNat b)), (.int (Int32.ofNat a)), (.ref d)]) [oAloadN w.ok (dc.g 14 rfl), oIloadN w.ok (dc.g 15 rfl), oIload w.ok (dc.g 16 rfl)] rfl ?_
  refine w.callV (wd hw 33 rfl) (wd hw 34 rfl) (notFace (wd hw 36 rfl)) (wd hw 36 rfl) (wd hw 35 rfl) (by decide) (a := d) X (argsL := [(.int (Int32.ofNat a)), (.int (Int32.ofNat b))]) (Wd := 0) (Ctr.pays (len := 3) (Wd := 0) (c_join l Z a0 hw hEL (i := a) (j := b) X FP FA RP (by decide) ha hb hA0) w (wd hw 37 rfl) (wd hw 2 rfl) hEL (by decide) (by decide) sfNil) pd3 rfl (st := []) rfl rfl (Nat.le_of_eq rfl) (dc.g 17 rfl) (by decide) (by decide) ?_
  intro vm116 T117 h118 v119 w120 C121 Q122
  obtain ⟨rfl, q1, K1, F1, R1⟩ := Q122
  have Y1 := FY.keep K1 (ninS hyA nin0)
  show Go κ _ T117 25 #[.val (.ref d), .val (.ref y), .val (.int p), .val (.int (Int32.ofNat a)), .val (.int (Int32.ofNat b))] []
  refine blk (pc' := 28) (Ls' := #[.val (.ref d), .val (.ref y), .val (.int p), .val (.int (Int32.ofNat a)), .val (.int (Int32.ofNat b))]) (st' := [(.int (Int32.ofNat a)), (.ref y), (.ref y)]) [oAloadN w120.ok (dc.g 18 rfl), oAloadN w120.ok (dc.g 19 rfl), oIloadN w120.ok (dc.g 20 rfl)] rfl ?_
  refine w120.ild Y1 (i := a) rfl (at5 a ha) (dc.g 21 rfl) ?_
  show Go κ _ T117 29 #[.val (.ref d), .val (.ref y), .val (.int p), .val (.int (Int32.ofNat a)), .val (.int (Int32.ofNat b))] [(.int (L a)), (.ref y)]
  refine blk (pc' := 32) (Ls' := #[.val (.ref d), .val (.ref y), .val (.int p), .val (.int (Int32.ofNat a)), .val (.int (Int32.ofNat b))]) (st' := [(.int (Int32.ofNat b)), (.ref y), (.int (L a)), (.ref y)]) [oAloadN w120.ok (dc.g 22 rfl), oIload w120.ok (dc.g 23 rfl)] rfl ?_
  refine w120.ild Y1 (i := b) rfl (at5 b hb) (dc.g 24 rfl) ?_
  show Go κ _ T117 33 #[.val (.ref d), .val (.ref y), .val (.int p), .val (.int (Int32.ofNat a)), .val (.int (Int32.ofNat b))] [(.int (L b)), (.int (L a)), (.ref y)]
  refine w120.callS (wd hw 43 rfl) (wd hw 44 rfl) (wd hw 30 rfl) (wd hw 45 rfl) (by decide) (argsL := [(.ref y), (.int (L a)), (.int (L b))]) (Wd := 0) (Ctr.pays (len := 3) (Wd := 0) (c_rlb l Z a0 hw hEL Y1 hy0) w120 (wd hw 45 rfl) (wd hw 30 rfl) hEL (by decide) (by decide) sfNil) pd4 rfl (st := []) rfl rfl (Nat.le_of_eq rfl) (dc.g 25 rfl) (by decide) (by decide) ?_
  intro vm123 T124 h125 v126 w127 C128 Q129
  obtain ⟨rfl, K2, Y2⟩ := Q129
  show Go κ _ T124 36 #[.val (.ref d), .val (.ref y), .val (.int p), .val (.int (Int32.ofNat a)), .val (.int (Int32.ofNat b))] []
  exact w127.retV (dc.g 26 rfl) (by decide) (by decide) (fun S hS => ⟨rfl, q1, _, (fun i => if L i = L a then L b else L i), ((Keep.refl h [A, y]).trans K1 (allS (Or.inl (List.mem_of_getElem? (i := 0) rfl)) all0)).trans K2 (allS (Or.inl (List.mem_of_getElem? (i := 1) rfl)) all0), F1.keep K2 (ninS (Ne.symm hyA) nin0), R1, Y2, inv_step hI ha hb⟩)
def D_mem : List (Nat × Instr × Nat) := [(0, .aload_n 0, 1), (1, .iload_n 2, 1), (2, .iaload, 1), (3, .istore_n 3, 1), (4, .iload_n 3, 1), (5, .ifCond .lt 8, 3), (8, .iload_n 3, 1), (9, .iconst 5, 1), (10, .if_icmp .lt 5, 3), (13, .iconst 0, 1), (14, .ireturn, 1), (15, .aload_n 1, 1), (16, .iload_n 3, 1), (17, .iaload, 1), (18, .aload_n 1, 1), (19, .iload_n 2, 1), (20, .iaload, 1), (21, .if_icmp .ne 7, 3), (24, .iconst 1, 1), (25, .goto 4, 3), (28, .iconst 0, 1), (29, .ireturn, 1)]
theorem hD_mem : ∀ q ∈ D_mem, decode method_5_code q.1 = .ok q.2 := by decide +kernel
set_option maxRecDepth 65536 in
set_option maxHeartbeats 4000000 in
theorem c_mem (l : Launch) (Z : State) (a0 : Array Value) (hw : ∀ d ∈ tables_1, d.before a0 Z = true) (hEL : EW Z a0 []) {r y : Addr} {vs ls : List Int32} {i v : Nat} {u : Int32} {h : Heap} (Fr : Ary Z h r .int vs) (Fl : Ary Z h y .int ls) (h0 : vs[i]? = some (Int32.ofNat v)) (hv : v < 5) (h1 : ls[v]? = some u) (h2 : ls[i]? = some u) : Ctr l Z [] (⟨"com/example/isomark/isomark/DisjointSetsRootPinLaw", "member", "([I[II)Z"⟩ : MethodName) method_5_code 4 (some .boolean) [] ({ frames := 0, cells := 0, slots := 0, locals := 0 } : Room) [] #[(.ref r), (.ref y), (.int (Int32.ofNat i))] h (fun v h' S => h = h' ∧ v = some (.int 1)) := by
  refine enter (a0 := a0) (by first | (simp [plainName, overriddenIn]; done) | decide +kernel) hEL (Ls := #[.val (.ref r), .val (.ref y), .val (.int (Int32.ofNat i)), .unset]) (fun m => by first | (simp [entryFrame, mkF, argsToLocals, Value.category]; done) | rfl) ?_
  intro κ vm T hby hs w Sf
  have dc := Dec.of hby hD_mem
  show Go κ (GQ κ Z [] ({ frames := 0, cells := 0, slots := 0, locals := 0 } : Room) (fun v h' S => h = h' ∧ v = some (.int 1))) T 0 #[.val (.ref r), .val (.ref y), .val (.int (Int32.ofNat i)), .unset] []
  refine blk (pc' := 2) (Ls' := #[.val (.ref r), .val (.ref y), .val (.int (Int32.ofNat i)), .unset]) (st' := [(.int (Int32.ofNat i)), (.ref r)]) [oAloadN w.ok (dc.g 0 rfl), oIloadN w.ok (dc.g 1 rfl)] rfl ?_
  refine w.ild Fr (i := i) rfl h0 (dc.g 2 rfl) ?_
  show Go κ _ T 3 #[.val (.ref r), .val (.ref y), .val (.int (Int32.ofNat i)), .unset] [(.int (Int32.ofNat v))]
  refine blk (pc' := 5) (Ls' := #[.val (.ref r), .val (.ref y), .val (.int (Int32.ofNat i)), .val (.int (Int32.ofNat v))]) (st' := [(.int (Int32.ofNat v))]) [oIstoreN w.ok (dc.g 3 rfl), oIloadN w.ok (dc.g 4 rfl)] rfl ?_
  refine zLt (pc' := 13) w.ok (dc.g 5 rfl) (by decide) (by decide) (fun hc130 => absurd hc130 (nneg_ofNat (by omega))) (fun hc130 => ?_)
  show Go κ _ T 8 #[.val (.ref r), .val (.ref y), .val (.int (Int32.ofNat i)), .val (.int (Int32.ofNat v))] []
  refine blk (pc' := 10) (Ls' := #[.val (.ref r), .val (.ref y), .val (.int (Int32.ofNat i)), .val (.int (Int32.ofNat v))]) (st' := [(.int (5 : Int32)), (.int (Int32.ofNat v))]) [oIloadN w.ok (dc.g 6 rfl), oIconst w.ok (dc.g 7 rfl)] rfl ?_
  refine cLt (pc' := 15) w.ok (dc.g 8 rfl) (by decide) (by decide) (fun hc131 => ?_) (fun hc131 => absurd (by rw [show (5 : Int32) = Int32.ofNat 5 from rfl, ofNat_lt (by omega) (by decide)]; exact hv) hc131)
  show Go κ _ T 15 #[.val (.ref r), .val (.ref y), .val (.int (Int32.ofNat i)), .val (.int (Int32.ofNat v))] []
  refine blk (pc' := 17) (Ls' := #[.val (.ref r), .val (.ref y), .val (.int (Int32.ofNat i)), .val (.int (Int32.ofNat v))]) (st' := [(.int (Int32.ofNat v)), (.ref y)]) [oAloadN w.ok (dc.g 11 rfl), oIloadN w.ok (dc.g 12 rfl)] rfl ?_
  refine w.ild Fl (i := v) rfl h1 (dc.g 13 rfl) ?_
  show Go κ _ T 18 #[.val (.ref r), .val (.ref y), .val (.int (Int32.ofNat i)), .val (.int (Int32.ofNat v))] [(.int u)]
  refine blk (pc' := 20) (Ls' := #[.val (.ref r), .val (.ref y), .val (.int (Int32.ofNat i)), .val (.int (Int32.ofNat v))]) (st' := [(.int (Int32.ofNat i)), (.ref y), (.int u)]) [oAloadN w.ok (dc.g 14 rfl), oIloadN w.ok (dc.g 15 rfl)] rfl ?_
  refine w.ild Fl (i := i) rfl h2 (dc.g 16 rfl) ?_
  show Go κ _ T 21 #[.val (.ref r), .val (.ref y), .val (.int (Int32.ofNat i)), .val (.int (Int32.ofNat v))] [(.int u), (.int u)]
  refine cNe (pc' := 28) w.ok (dc.g 17 rfl) (by decide) (by decide) (fun hc132 => absurd rfl hc132) (fun hc132 => ?_)
  show Go κ _ T 24 #[.val (.ref r), .val (.ref y), .val (.int (Int32.ofNat i)), .val (.int (Int32.ofNat v))] []
  refine blk (pc' := 29) (Ls' := #[.val (.ref r), .val (.ref y), .val (.int (Int32.ofNat i)), .val (.int (Int32.ofNat v))]) (st' := [(.int (1 : Int32))]) [oIconst w.ok (dc.g 18 rfl), oGoto w.ok 29 (dc.g 19 rfl)] rfl ?_
  exact w.retI (t := .boolean) rfl (Or.inr (Or.inl rfl)) rfl (dc.g 21 rfl) (by decide) (by decide) (fun S hS => ⟨rfl, rfl⟩)
def D_pr : List (Nat × Instr × Nat) := [(0, .aload_n 0, 1), (1, .iload_n 2, 1), (2, .iaload, 1), (3, .aload_n 0, 1), (4, .iload_n 3, 1), (5, .iaload, 1), (6, .if_icmp .ne 7, 3), (9, .iconst 1, 1), (10, .goto 4, 3), (13, .iconst 0, 1), (14, .aload_n 1, 1), (15, .iload_n 2, 1), (16, .iaload, 1), (17, .aload_n 1, 1), (18, .iload_n 3, 1), (19, .iaload, 1), (20, .if_icmp .ne 7, 3), (23, .iconst 1, 1), (24, .goto 4, 3), (27, .iconst 0, 1), (28, .if_icmp .ne 7, 3), (31, .iconst 1, 1), (32, .goto 4, 3), (35, .iconst 0, 1), (36, .ireturn, 1)]
theorem hD_pr : ∀ q ∈ D_pr, decode method_6_code q.1 = .ok q.2 := by decide +kernel
set_option maxRecDepth 65536 in
set_option maxHeartbeats 4000000 in
theorem c_pr (l : Launch) (Z : State) (a0 : Array Value) (hw : ∀ d ∈ tables_1, d.before a0 Z = true) (hEL : EW Z a0 []) {r y : Addr} {vs ls : List Int32} {i j : Nat} {p q s t : Int32} {h : Heap} (Fr : Ary Z h r .int vs) (Fl : Ary Z h y .int ls) (h0 : vs[i]? = some p) (h1 : vs[j]? = some q) (h2 : ls[i]? = some s) (h3 : ls[j]? = some t) (hq : p = q ↔ s = t) : Ctr l Z [] (⟨"com/example/isomark/isomark/DisjointSetsRootPinLaw", "pair", "([I[III)Z"⟩ : MethodName) method_6_code 4 (some .boolean) [] ({ frames := 0, cells := 0, slots := 0, locals := 0 } : Room) [] #[(.ref r), (.ref y), (.int (Int32.ofNat i)), (.int (Int32.ofNat j))] h (fun v h' S => h = h' ∧ v = some (.int 1)) := by
  refine enter (a0 := a0) (by first | (simp [plainName, overriddenIn]; done) | decide +kernel) hEL (Ls := #[.val (.ref r), .val (.ref y), .val (.int (Int32.ofNat i)), .val (.int (Int32.ofNat j))]) (fun m => by first | (simp [entryFrame, mkF, argsToLocals, Value.category]; done) | rfl) ?_
  intro κ vm T hby hs w Sf
  have dc := Dec.of hby hD_pr
  show Go κ (GQ κ Z [] ({ frames := 0, cells := 0, slots := 0, locals := 0 } : Room) (fun v h' S => h = h' ∧ v = some (.int 1))) T 0 #[.val (.ref r), .val (.ref y), .val (.int (Int32.ofNat i)), .val (.int (Int32.ofNat j))] []
  refine blk (pc' := 2) (Ls' := #[.val (.ref r), .val (.ref y), .val (.int (Int32.ofNat i)), .val (.int (Int32.ofNat j))]) (st' := [(.int (Int32.ofNat i)), (.ref r)]) [oAloadN w.ok (dc.g 0 rfl), oIloadN w.ok (dc.g 1 rfl)] rfl ?_
  refine w.ild Fr (i := i) rfl h0 (dc.g 2 rfl) ?_
  show Go κ _ T 3 #[.val (.ref r), .val (.ref y), .val (.int (Int32.ofNat i)), .val (.int (Int32.ofNat j))] [(.int p)]
  refine blk (pc' := 5) (Ls' := #[.val (.ref r), .val (.ref y), .val (.int (Int32.ofNat i)), .val (.int (Int32.ofNat j))]) (st' := [(.int (Int32.ofNat j)), (.ref r), (.int p)]) [oAloadN w.ok (dc.g 3 rfl), oIloadN w.ok (dc.g 4 rfl)] rfl ?_
  refine w.ild Fr (i := j) rfl h1 (dc.g 5 rfl) ?_
  show Go κ _ T 6 #[.val (.ref r), .val (.ref y), .val (.int (Int32.ofNat i)), .val (.int (Int32.ofNat j))] [(.int q), (.int p)]
  refine cNe (pc' := 13) w.ok (dc.g 6 rfl) (by decide) (by decide) (fun hc133 => ?_) (fun hc133 => ?_)
  · show Go κ _ T 13 #[.val (.ref r), .val (.ref y), .val (.int (Int32.ofNat i)), .val (.int (Int32.ofNat j))] []
    refine blk (pc' := 16) (Ls' := #[.val (.ref r), .val (.ref y), .val (.int (Int32.ofNat i)), .val (.int (Int32.ofNat j))]) (st' := [(.int (Int32.ofNat i)), (.ref y), (.int (0 : Int32))]) [oIconst w.ok (dc.g 9 rfl), oAloadN w.ok (dc.g 10 rfl), oIloadN w.ok (dc.g 11 rfl)] rfl ?_
    refine w.ild Fl (i := i) rfl h2 (dc.g 12 rfl) ?_
    show Go κ _ T 17 #[.val (.ref r), .val (.ref y), .val (.int (Int32.ofNat i)), .val (.int (Int32.ofNat j))] [(.int s), (.int (0 : Int32))]
    refine blk (pc' := 19) (Ls' := #[.val (.ref r), .val (.ref y), .val (.int (Int32.ofNat i)), .val (.int (Int32.ofNat j))]) (st' := [(.int (Int32.ofNat j)), (.ref y), (.int s), (.int (0 : Int32))]) [oAloadN w.ok (dc.g 13 rfl), oIloadN w.ok (dc.g 14 rfl)] rfl ?_
    refine w.ild Fl (i := j) rfl h3 (dc.g 15 rfl) ?_
    show Go κ _ T 20 #[.val (.ref r), .val (.ref y), .val (.int (Int32.ofNat i)), .val (.int (Int32.ofNat j))] [(.int t), (.int s), (.int (0 : Int32))]
    refine cNe (pc' := 27) w.ok (dc.g 16 rfl) (by decide) (by decide) (fun hc134 => ?_) (fun hc134 => absurd hc134 (fun q => hc133 (hq.mpr q)))
    show Go κ _ T 27 #[.val (.ref r), .val (.ref y), .val (.int (Int32.ofNat i)), .val (.int (Int32.ofNat j))] [(.int (0 : Int32))]
    refine blk (pc' := 28) (Ls' := #[.val (.ref r), .val (.ref y), .val (.int (Int32.ofNat i)), .val (.int (Int32.ofNat j))]) (st' := [(.int (0 : Int32)), (.int (0 : Int32))]) [oIconst w.ok (dc.g 19 rfl)] rfl ?_
    refine cNe (pc' := 35) w.ok (dc.g 20 rfl) (by decide) (by decide) (fun hc135 => absurd rfl hc135) (fun hc135 => ?_)
    show Go κ _ T 31 #[.val (.ref r), .val (.ref y), .val (.int (Int32.ofNat i)), .val (.int (Int32.ofNat j))] []
    refine blk (pc' := 36) (Ls' := #[.val (.ref r), .val (.ref y), .val (.int (Int32.ofNat i)), .val (.int (Int32.ofNat j))]) (st' := [(.int (1 : Int32))]) [oIconst w.ok (dc.g 21 rfl), oGoto w.ok 36 (dc.g 22 rfl)] rfl ?_
    exact w.retI (t := .boolean) rfl (Or.inr (Or.inl rfl)) rfl (dc.g 24 rfl) (by decide) (by decide) (fun S hS => ⟨rfl, rfl⟩)
  · show Go κ _ T 9 #[.val (.ref r), .val (.ref y), .val (.int (Int32.ofNat i)), .val (.int (Int32.ofNat j))] []
    refine blk (pc' := 16) (Ls' := #[.val (.ref r), .val (.ref y), .val (.int (Int32.ofNat i)), .val (.int (Int32.ofNat j))]) (st' := [(.int (Int32.ofNat i)), (.ref y), (.int (1 : Int32))]) [oIconst w.ok (dc.g 7 rfl), oGoto w.ok 14 (dc.g 8 rfl), oAloadN w.ok (dc.g 10 rfl), oIloadN w.ok (dc.g 11 rfl)] rfl ?_
    refine w.ild Fl (i := i) rfl h2 (dc.g 12 rfl) ?_
    show Go κ _ T 17 #[.val (.ref r), .val (.ref y), .val (.int (Int32.ofNat i)), .val (.int (Int32.ofNat j))] [(.int s), (.int (1 : Int32))]
    refine blk (pc' := 19) (Ls' := #[.val (.ref r), .val (.ref y), .val (.int (Int32.ofNat i)), .val (.int (Int32.ofNat j))]) (st' := [(.int (Int32.ofNat j)), (.ref y), (.int s), (.int (1 : Int32))]) [oAloadN w.ok (dc.g 13 rfl), oIloadN w.ok (dc.g 14 rfl)] rfl ?_
    refine w.ild Fl (i := j) rfl h3 (dc.g 15 rfl) ?_
    show Go κ _ T 20 #[.val (.ref r), .val (.ref y), .val (.int (Int32.ofNat i)), .val (.int (Int32.ofNat j))] [(.int t), (.int s), (.int (1 : Int32))]
    refine cNe (pc' := 27) w.ok (dc.g 16 rfl) (by decide) (by decide) (fun hc136 => absurd (hq.mp hc133) hc136) (fun hc136 => ?_)
    show Go κ _ T 23 #[.val (.ref r), .val (.ref y), .val (.int (Int32.ofNat i)), .val (.int (Int32.ofNat j))] [(.int (1 : Int32))]
    refine blk (pc' := 28) (Ls' := #[.val (.ref r), .val (.ref y), .val (.int (Int32.ofNat i)), .val (.int (Int32.ofNat j))]) (st' := [(.int (1 : Int32)), (.int (1 : Int32))]) [oIconst w.ok (dc.g 17 rfl), oGoto w.ok 28 (dc.g 18 rfl)] rfl ?_
    refine cNe (pc' := 35) w.ok (dc.g 20 rfl) (by decide) (by decide) (fun hc137 => absurd rfl hc137) (fun hc137 => ?_)
    show Go κ _ T 31 #[.val (.ref r), .val (.ref y), .val (.int (Int32.ofNat i)), .val (.int (Int32.ofNat j))] []
    refine blk (pc' := 36) (Ls' := #[.val (.ref r), .val (.ref y), .val (.int (Int32.ofNat i)), .val (.int (Int32.ofNat j))]) (st' := [(.int (1 : Int32))]) [oIconst w.ok (dc.g 21 rfl), oGoto w.ok 36 (dc.g 22 rfl)] rfl ?_
    exact w.retI (t := .boolean) rfl (Or.inr (Or.inl rfl)) rfl (dc.g 24 rfl) (by decide) (by decide) (fun S hS => ⟨rfl, rfl⟩)
def D_law : List (Nat × Instr × Nat) := [(0, .new 7, 3), (3, .dup, 1), (4, .iconst 5, 1), (5, .invokespecial 9, 3), (8, .astore 5, 2), (10, .iconst 5, 1), (11, .newarray .int, 2), (13, .dup, 1), (14, .iconst 0, 1), (15, .iconst 0, 1), (16, .iastore, 1), (17, .dup, 1), (18, .iconst 1, 1), (19, .iconst 1, 1), (20, .iastore, 1), (21, .dup, 1), (22, .iconst 2, 1), (23, .iconst 2, 1), (24, .iastore, 1), (25, .dup, 1), (26, .iconst 3, 1), (27, .iconst 3, 1), (28, .iastore, 1), (29, .dup, 1), (30, .iconst 4, 1), (31, .iconst 4, 1), (32, .iastore, 1), (33, .astore 6, 2), (35, .aload 5, 2), (37, .aload 6, 2), (39, .iload_n 0, 1), (40, .invokestatic 12, 3), (43, .aload 5, 2), (45, .aload 6, 2), (47, .iload_n 1, 1), (48, .invokestatic 12, 3), (51, .aload 5, 2), (53, .aload 6, 2), (55, .iload_n 2, 1), (56, .invokestatic 12, 3), (59, .aload 5, 2), (61, .aload 6, 2), (63, .iload_n 3, 1), (64, .invokestatic 12, 3), (67, .iconst 5, 1), (68, .newarray .int, 2), (70, .astore 7, 2), (72, .iload 4, 2), (74, .ldc 18, 2), (76, .iand, 1), (77, .iconst 5, 1), (78, .irem, 1), (79, .istore 8, 2), (81, .aload 7, 2), (83, .iload 8, 2), (85, .iconst 5, 1), (86, .irem, 1), (87, .aload 5, 2), (89, .iload 8, 2), (91, .iconst 5, 1), (92, .irem, 1), (93, .invokevirtual 19, 3), (96, .iastore, 1), (97, .aload 7, 2), (99, .iload 8, 2), (101, .iconst 1, 1), (102, .iadd, 1), (103, .iconst 5, 1), (104, .irem, 1), (105, .aload 5, 2), (107, .iload 8, 2), (109, .iconst 1, 1), (110, .iadd, 1), (111, .iconst 5, 1), (112, .irem, 1), (113, .invokevirtual 19, 3), (116, .iastore, 1), (117, .aload 7, 2), (119, .iload 8, 2), (121, .iconst 2, 1), (122, .iadd, 1), (123, .iconst 5, 1), (124, .irem, 1), (125, .aload 5, 2), (127, .iload 8, 2), (129, .iconst 2, 1), (130, .iadd, 1), (131, .iconst 5, 1), (132, .irem, 1), (133, .invokevirtual 19, 3), (136, .iastore, 1), (137, .aload 7, 2), (139, .iload 8, 2), (141, .iconst 3, 1), (142, .iadd, 1), (143, .iconst 5, 1), (144, .irem, 1), (145, .aload 5, 2), (147, .iload 8, 2), (149, .iconst 3, 1), (150, .iadd, 1), (151, .iconst 5, 1), (152, .irem, 1), (153, .invokevirtual 19, 3), (156, .iastore, 1), (157, .aload 7, 2), (159, .iload 8, 2), (161, .iconst 4, 1), (162, .iadd, 1), (163, .iconst 5, 1), (164, .irem, 1), (165, .aload 5, 2), (167, .iload 8, 2), (169, .iconst 4, 1), (170, .iadd, 1), (171, .iconst 5, 1), (172, .irem, 1), (173, .invokevirtual 19, 3), (176, .iastore, 1), (177, .aload 7, 2), (179, .aload 6, 2), (181, .iconst 0, 1), (182, .invokestatic 23, 3), (185, .ifCond .eq 51, 3), (188, .aload 7, 2), (190, .aload 6, 2), (192, .iconst 1, 1), (193, .invokestatic 23, 3), (196, .ifCond .eq 40, 3), (199, .aload 7, 2), (201, .aload 6, 2), (203, .iconst 2, 1), (204, .invokestatic 23, 3), (207, .ifCond .eq 29, 3), (210, .aload 7, 2), (212, .aload 6, 2), (214, .iconst 3, 1), (215, .invokestatic 23, 3), (218, .ifCond .eq 18, 3), (221, .aload 7, 2), (223, .aload 6, 2), (225, .iconst 4, 1), (226, .invokestatic 23, 3), (229, .ifCond .eq 7, 3), (232, .iconst 1, 1), (233, .goto 4, 3), (236, .iconst 0, 1), (237, .istore 9, 2), (239, .iload 9, 2), (241, .ifCond .ne 5, 3), (244, .iconst 0, 1), (245, .ireturn, 1), (246, .aload 7, 2), (248, .aload 6, 2), (250, .iconst 0, 1), (251, .iconst 1, 1), (252, .invokestatic 27, 3), (255, .ifCond .eq 115, 3), (258, .aload 7, 2), (260, .aload 6, 2), (262, .iconst 0, 1), (263, .iconst 2, 1), (264, .invokestatic 27, 3), (267, .ifCond .eq 103, 3), (270, .aload 7, 2), (272, .aload 6, 2), (274, .iconst 0, 1), (275, .iconst 3, 1), (276, .invokestatic 27, 3), (279, .ifCond .eq 91, 3), (282, .aload 7, 2), (284, .aload 6, 2), (286, .iconst 0, 1), (287, .iconst 4, 1), (288, .invokestatic 27, 3), (291, .ifCond .eq 79, 3), (294, .aload 7, 2), (296, .aload 6, 2), (298, .iconst 1, 1), (299, .iconst 2, 1), (300, .invokestatic 27, 3), (303, .ifCond .eq 67, 3), (306, .aload 7, 2), (308, .aload 6, 2), (310, .iconst 1, 1), (311, .iconst 3, 1), (312, .invokestatic 27, 3), (315, .ifCond .eq 55, 3), (318, .aload 7, 2), (320, .aload 6, 2), (322, .iconst 1, 1), (323, .iconst 4, 1), (324, .invokestatic 27, 3), (327, .ifCond .eq 43, 3), (330, .aload 7, 2), (332, .aload 6, 2), (334, .iconst 2, 1), (335, .iconst 3, 1), (336, .invokestatic 27, 3), (339, .ifCond .eq 31, 3), (342, .aload 7, 2), (344, .aload 6, 2), (346, .iconst 2, 1), (347, .iconst 4, 1), (348, .invokestatic 27, 3), (351, .ifCond .eq 19, 3), (354, .aload 7, 2), (356, .aload 6, 2), (358, .iconst 3, 1), (359, .iconst 4, 1), (360, .invokestatic 27, 3), (363, .ifCond .eq 7, 3), (366, .iconst 1, 1), (367, .goto 4, 3), (370, .iconst 0, 1), (371, .ireturn, 1)]
theorem hD_law : ∀ q ∈ D_law, decode code q.1 = .ok q.2 := by decide +kernel
set_option maxRecDepth 65536 in
set_option maxHeartbeats 4000000 in
theorem c_law (l : Launch) (Z : State) (a0 : Array Value) (hw : ∀ d ∈ tables_1, d.before a0 Z = true) (hEL : EW Z a0 []) {p0 p1 p2 p3 p4 : Int32} (h : Heap) (oz : Ext Z.heap h) (ws : List Jvm.Cond) : Ctr l Z [] x code maxLocals ret ws room_1 [] #[(.int p0), (.int p1), (.int p2), (.int p3), (.int p4)] h (fun v h' S => v = some (.int 1)) := by
  refine enter (a0 := a0) (by first | (simp [plainName, overriddenIn]; done) | decide +kernel) hEL (Ls := #[.val (.int p0), .val (.int p1), .val (.int p2), .val (.int p3), .val (.int p4), .unset, .unset, .unset, .unset, .unset]) (fun m => by first | (simp [entryFrame, mkF, argsToLocals, Value.category, maxLocals]; done) | rfl) ?_
  intro κ vm T hby hs w Sf
  have dc := Dec.of hby hD_law
  show Go κ (GQ κ Z [] room_1 (fun v h' S => v = some (.int 1))) T 0 #[.val (.int p0), .val (.int p1), .val (.int p2), .val (.int p3), .val (.int p4), .unset, .unset, .unset, .unset, .unset] []
  have ozs : Ext Z.heap κ.s.heap := by rw [hs]; exact oz
  refine w.new (wd hw 0 rfl) (wd hw 1 rfl) (wd hw 2 rfl) (dc.g 0 rfl) (by decide) (by decide) ?_
  intro T138 h140 x141 w139 g142 E143 X144 D145 S146
  show Go κ _ T138 3 #[.val (.int p0), .val (.int p1), .val (.int p2), .val (.int p3), .val (.int p4), .unset, .unset, .unset, .unset, .unset] [(.ref x141)]
  refine blk (pc' := 5) (Ls' := #[.val (.int p0), .val (.int p1), .val (.int p2), .val (.int p3), .val (.int p4), .unset, .unset, .unset, .unset, .unset]) (st' := [(.int (5 : Int32)), (.ref x141), (.ref x141)]) [oDup w139.ok (dc.g 1 rfl), oIconst w139.ok (dc.g 2 rfl)] rfl ?_
  refine w139.callI rfl (wd hw 3 rfl) (wd hw 4 rfl) (wd hw 5 rfl) (by decide) (a := x141) (argsL := [(.int (5 : Int32))]) (Wd := 1) (Ctr.pays (len := 3) (Wd := 1) (c_init l Z a0 hw hEL (w139.old ozs) X144 (D145 (Or.inr (wd hw 11 rfl)) (ty := .array .int) (by decide)) (by rw [g142]; exact oz.1)) w139 (wd hw 5 rfl) (wd hw 2 rfl) hEL (by decide) (by decide) sfNil) pd5 rfl (st := [(.ref x141)]) rfl rfl (Nat.le_of_eq rfl) (dc.g 3 rfl) (by decide) (by decide) ?_
  intro vm147 T148 h149 v150 w151 C152 Q153
  obtain ⟨rfl, K0, X0, A, FP0, hgA, FA0⟩ := Q153
  have hA0 : Z.heap.size ≤ A := Nat.le_trans (Nat.le_trans oz.1 E143.1) hgA
  have hdA : x141 ≠ A := Ne.symm (FA0.ne_exa X0 (wd hw 1 rfl))
  have R0 : Rep (List.range 5) (fun x => x) 5 := Rep.id
  show Go κ _ T148 8 #[.val (.int p0), .val (.int p1), .val (.int p2), .val (.int p3), .val (.int p4), .unset, .unset, .unset, .unset, .unset] [(.ref x141)]
  refine blk (pc' := 11) (Ls' := #[.val (.int p0), .val (.int p1), .val (.int p2), .val (.int p3), .val (.int p4), .val (.ref x141), .unset, .unset, .unset, .unset]) (st' := [(.int (5 : Int32))]) [oAstore w151.ok (dc.g 4 rfl), oIconst w151.ok (dc.g 5 rfl)] rfl ?_
  have Y154 := (w151.old ozs).1
  refine w151.newarr (aty := .int) (wd hw 9 rfl) (dc.g 6 rfl) (c := 5) (by decide) (by decide) (cap := 5) (by first | decide | omega) (by first | decide | omega) (by decide) (by decide) rfl rfl ?_
  intro T155 h157 x158 w156 g159 E160 F161 S162
  show Go κ _ T155 13 #[.val (.int p0), .val (.int p1), .val (.int p2), .val (.int p3), .val (.int p4), .val (.ref x141), .unset, .unset, .unset, .unset] [(.ref x158)]
  have Y163 := (FA0).lt
  have Y164 := (X0).ext E160
  have Y165 := (FP0).ext E160
  have Y166 := (FA0).ext E160
  have Y167 := F161.ne_exa Y164 (wd hw 1 rfl)
  have Y168 : x158 ≠ A := by rw [g159]; exact Nat.ne_of_gt Y163
  have Y169 : Ary Z h157 x158 .int [0, 0, 0, 0, 0] := F161
  have Y170 : Z.heap.size ≤ x158 := by rw [g159]; exact Y154
  refine blk (pc' := 16) (Ls' := #[.val (.int p0), .val (.int p1), .val (.int p2), .val (.int p3), .val (.int p4), .val (.ref x141), .unset, .unset, .unset, .unset]) (st' := [(.int (0 : Int32)), (.int (0 : Int32)), (.ref x158), (.ref x158)]) [oDup w156.ok (dc.g 7 rfl), oIconst w156.ok (dc.g 8 rfl), oIconst w156.ok (dc.g 9 rfl)] rfl ?_
  refine w156.ist Y169 (i := 0) rfl (by simp) Y170 (dc.g 10 rfl) ?_
  intro T171 h173 w172 W174 F175
  show Go κ _ T171 17 #[.val (.int p0), .val (.int p1), .val (.int p2), .val (.int p3), .val (.int p4), .val (.ref x141), .unset, .unset, .unset, .unset] [(.ref x158)]
  obtain ⟨slW174, vvW174, WW174⟩ := W174
  have Y176 := (Y164).wr WW174
  have Y177 := (Y165).other WW174 (Or.inl (Ne.symm Y167))
  have Y178 := (Y166).other WW174 (Ne.symm Y168)
  have Y179 : Ary Z h173 x158 .int [(0 : Int32), 0, 0, 0, 0] := F175
  refine blk (pc' := 20) (Ls' := #[.val (.int p0), .val (.int p1), .val (.int p2), .val (.int p3), .val (.int p4), .val (.ref x141), .unset, .unset, .unset, .unset]) (st' := [(.int (1 : Int32)), (.int (1 : Int32)), (.ref x158), (.ref x158)]) [oDup w172.ok (dc.g 11 rfl), oIconst w172.ok (dc.g 12 rfl), oIconst w172.ok (dc.g 13 rfl)] rfl ?_
  refine w172.ist Y179 (i := 1) rfl (by simp) Y170 (dc.g 14 rfl) ?_
  intro T180 h182 w181 W183 F184
  show Go κ _ T180 21 #[.val (.int p0), .val (.int p1), .val (.int p2), .val (.int p3), .val (.int p4), .val (.ref x141), .unset, .unset, .unset, .unset] [(.ref x158)]
  obtain ⟨slW183, vvW183, WW183⟩ := W183
  have Y185 := (Y176).wr WW183
  have Y186 := (Y177).other WW183 (Or.inl (Ne.symm Y167))
  have Y187 := (Y178).other WW183 (Ne.symm Y168)
  have Y188 : Ary Z h182 x158 .int [(0 : Int32), (1 : Int32), 0, 0, 0] := F184
  refine blk (pc' := 24) (Ls' := #[.val (.int p0), .val (.int p1), .val (.int p2), .val (.int p3), .val (.int p4), .val (.ref x141), .unset, .unset, .unset, .unset]) (st' := [(.int (2 : Int32)), (.int (2 : Int32)), (.ref x158), (.ref x158)]) [oDup w181.ok (dc.g 15 rfl), oIconst w181.ok (dc.g 16 rfl), oIconst w181.ok (dc.g 17 rfl)] rfl ?_
  refine w181.ist Y188 (i := 2) rfl (by simp) Y170 (dc.g 18 rfl) ?_
  intro T189 h191 w190 W192 F193
  show Go κ _ T189 25 #[.val (.int p0), .val (.int p1), .val (.int p2), .val (.int p3), .val (.int p4), .val (.ref x141), .unset, .unset, .unset, .unset] [(.ref x158)]
  obtain ⟨slW192, vvW192, WW192⟩ := W192
  have Y194 := (Y185).wr WW192
  have Y195 := (Y186).other WW192 (Or.inl (Ne.symm Y167))
  have Y196 := (Y187).other WW192 (Ne.symm Y168)
  have Y197 : Ary Z h191 x158 .int [(0 : Int32), (1 : Int32), (2 : Int32), 0, 0] := F193
  refine blk (pc' := 28) (Ls' := #[.val (.int p0), .val (.int p1), .val (.int p2), .val (.int p3), .val (.int p4), .val (.ref x141), .unset, .unset, .unset, .unset]) (st' := [(.int (3 : Int32)), (.int (3 : Int32)), (.ref x158), (.ref x158)]) [oDup w190.ok (dc.g 19 rfl), oIconst w190.ok (dc.g 20 rfl), oIconst w190.ok (dc.g 21 rfl)] rfl ?_
  refine w190.ist Y197 (i := 3) rfl (by simp) Y170 (dc.g 22 rfl) ?_
  intro T198 h200 w199 W201 F202
  show Go κ _ T198 29 #[.val (.int p0), .val (.int p1), .val (.int p2), .val (.int p3), .val (.int p4), .val (.ref x141), .unset, .unset, .unset, .unset] [(.ref x158)]
  obtain ⟨slW201, vvW201, WW201⟩ := W201
  have Y203 := (Y194).wr WW201
  have Y204 := (Y195).other WW201 (Or.inl (Ne.symm Y167))
  have Y205 := (Y196).other WW201 (Ne.symm Y168)
  have Y206 : Ary Z h200 x158 .int [(0 : Int32), (1 : Int32), (2 : Int32), (3 : Int32), 0] := F202
  refine blk (pc' := 32) (Ls' := #[.val (.int p0), .val (.int p1), .val (.int p2), .val (.int p3), .val (.int p4), .val (.ref x141), .unset, .unset, .unset, .unset]) (st' := [(.int (4 : Int32)), (.int (4 : Int32)), (.ref x158), (.ref x158)]) [oDup w199.ok (dc.g 23 rfl), oIconst w199.ok (dc.g 24 rfl), oIconst w199.ok (dc.g 25 rfl)] rfl ?_
  refine w199.ist Y206 (i := 4) rfl (by simp) Y170 (dc.g 26 rfl) ?_
  intro T207 h209 w208 W210 F211
  show Go κ _ T207 33 #[.val (.int p0), .val (.int p1), .val (.int p2), .val (.int p3), .val (.int p4), .val (.ref x141), .unset, .unset, .unset, .unset] [(.ref x158)]
  obtain ⟨slW210, vvW210, WW210⟩ := W210
  have Y212 := (Y203).wr WW210
  have Y213 := (Y204).other WW210 (Or.inl (Ne.symm Y167))
  have Y214 := (Y205).other WW210 (Ne.symm Y168)
  have Y215 : Ary Z h209 x158 .int [(0 : Int32), (1 : Int32), (2 : Int32), (3 : Int32), (4 : Int32)] := F211
  refine blk (pc' := 40) (Ls' := #[.val (.int p0), .val (.int p1), .val (.int p2), .val (.int p3), .val (.int p4), .val (.ref x141), .val (.ref x158), .unset, .unset, .unset]) (st' := [(.int p0), (.ref x158), (.ref x141)]) [oAstore w208.ok (dc.g 27 rfl), oAload w208.ok (dc.g 28 rfl), oAload w208.ok (dc.g 29 rfl), oIloadN w208.ok (dc.g 30 rfl)] rfl ?_
  have I0 : (∀ i j, i < 5 → j < 5 → (Int32.ofNat i = Int32.ofNat j ↔ (fun x : Nat => x) i = (fun x : Nat => x) j)) := fun i j hi hj => ofNat_inj (by omega) (by omega)
  have Y216 := Ne.symm Y167
  have Y217 : Ary Z h209 x158 .int ([Int32.ofNat 0, Int32.ofNat 1, Int32.ofNat 2, Int32.ofNat 3, Int32.ofNat 4] : List Int32) := Y215
  refine w208.callS (wd hw 28 rfl) (wd hw 29 rfl) (wd hw 30 rfl) (wd hw 31 rfl) (by decide) (argsL := [(.ref x141), (.ref x158), (.int p0)]) (Wd := 0) (Ctr.pays (len := 3) (Wd := 0) (c_step l Z a0 hw hEL (L := Int32.ofNat) Y212 Y213 Y214 R0 hA0 Y217 Y170 Y168 I0) w208 (wd hw 31 rfl) (wd hw 30 rfl) hEL (by decide) (by decide) sfNil) pd6 rfl (st := []) rfl rfl (Nat.le_of_eq rfl) (dc.g 31 rfl) (by decide) (by decide) ?_
  intro vm218 T219 h220 v221 w222 C223 Q224
  obtain ⟨rfl, qs1_, ρ1_, L1_, K1_, F1_, R1_, Y1_, I1_⟩ := Q224
  show Go κ _ T219 43 #[.val (.int p0), .val (.int p1), .val (.int p2), .val (.int p3), .val (.int p4), .val (.ref x141), .val (.ref x158), .unset, .unset, .unset] []
  have Y225 := (Y212).keep K1_
  have Y226 := (Y213).keep K1_ (ninS hdA (ninS Y216 nin0))
  refine blk (pc' := 48) (Ls' := #[.val (.int p0), .val (.int p1), .val (.int p2), .val (.int p3), .val (.int p4), .val (.ref x141), .val (.ref x158), .unset, .unset, .unset]) (st' := [(.int p1), (.ref x158), (.ref x141)]) [oAload w222.ok (dc.g 32 rfl), oAload w222.ok (dc.g 33 rfl), oIloadN w222.ok (dc.g 34 rfl)] rfl ?_
  refine w222.callS (wd hw 28 rfl) (wd hw 29 rfl) (wd hw 30 rfl) (wd hw 31 rfl) (by decide) (argsL := [(.ref x141), (.ref x158), (.int p1)]) (Wd := 0) (Ctr.pays (len := 3) (Wd := 0) (c_step l Z a0 hw hEL (L := L1_) Y225 Y226 F1_ R1_ hA0 Y1_ Y170 Y168 I1_) w222 (wd hw 31 rfl) (wd hw 30 rfl) hEL (by decide) (by decide) sfNil) pd6 rfl (st := []) rfl rfl (Nat.le_of_eq rfl) (dc.g 35 rfl) (by decide) (by decide) ?_
  intro vm227 T228 h229 v230 w231 C232 Q233
  obtain ⟨rfl, qs2_, ρ2_, L2_, K2_, F2_, R2_, Y2_, I2_⟩ := Q233
  show Go κ _ T228 51 #[.val (.int p0), .val (.int p1), .val (.int p2), .val (.int p3), .val (.int p4), .val (.ref x141), .val (.ref x158), .unset, .unset, .unset] []
  have Y234 := (Y225).keep K2_
  have Y235 := (Y226).keep K2_ (ninS hdA (ninS Y216 nin0))
  refine blk (pc' := 56) (Ls' := #[.val (.int p0), .val (.int p1), .val (.int p2), .val (.int p3), .val (.int p4), .val (.ref x141), .val (.ref x158), .unset, .unset, .unset]) (st' := [(.int p2), (.ref x158), (.ref x141)]) [oAload w231.ok (dc.g 36 rfl), oAload w231.ok (dc.g 37 rfl), oIloadN w231.ok (dc.g 38 rfl)] rfl ?_
  refine w231.callS (wd hw 28 rfl) (wd hw 29 rfl) (wd hw 30 rfl) (wd hw 31 rfl) (by decide) (argsL := [(.ref x141), (.ref x158), (.int p2)]) (Wd := 0) (Ctr.pays (len := 3) (Wd := 0) (c_step l Z a0 hw hEL (L := L2_) Y234 Y235 F2_ R2_ hA0 Y2_ Y170 Y168 I2_) w231 (wd hw 31 rfl) (wd hw 30 rfl) hEL (by decide) (by decide) sfNil) pd6 rfl (st := []) rfl rfl (Nat.le_of_eq rfl) (dc.g 39 rfl) (by decide) (by decide) ?_
  intro vm236 T237 h238 v239 w240 C241 Q242
  obtain ⟨rfl, qs3_, ρ3_, L3_, K3_, F3_, R3_, Y3_, I3_⟩ := Q242
  show Go κ _ T237 59 #[.val (.int p0), .val (.int p1), .val (.int p2), .val (.int p3), .val (.int p4), .val (.ref x141), .val (.ref x158), .unset, .unset, .unset] []
  have Y243 := (Y234).keep K3_
  have Y244 := (Y235).keep K3_ (ninS hdA (ninS Y216 nin0))
  refine blk (pc' := 64) (Ls' := #[.val (.int p0), .val (.int p1), .val (.int p2), .val (.int p3), .val (.int p4), .val (.ref x141), .val (.ref x158), .unset, .unset, .unset]) (st' := [(.int p3), (.ref x158), (.ref x141)]) [oAload w240.ok (dc.g 40 rfl), oAload w240.ok (dc.g 41 rfl), oIloadN w240.ok (dc.g 42 rfl)] rfl ?_
  refine w240.callS (wd hw 28 rfl) (wd hw 29 rfl) (wd hw 30 rfl) (wd hw 31 rfl) (by decide) (argsL := [(.ref x141), (.ref x158), (.int p3)]) (Wd := 0) (Ctr.pays (len := 3) (Wd := 0) (c_step l Z a0 hw hEL (L := L3_) Y243 Y244 F3_ R3_ hA0 Y3_ Y170 Y168 I3_) w240 (wd hw 31 rfl) (wd hw 30 rfl) hEL (by decide) (by decide) sfNil) pd6 rfl (st := []) rfl rfl (Nat.le_of_eq rfl) (dc.g 43 rfl) (by decide) (by decide) ?_
  intro vm245 T246 h247 v248 w249 C250 Q251
  obtain ⟨rfl, qs4_, ρ4_, L4_, K4_, F4_, R4_, Y4_, I4_⟩ := Q251
  show Go κ _ T246 67 #[.val (.int p0), .val (.int p1), .val (.int p2), .val (.int p3), .val (.int p4), .val (.ref x141), .val (.ref x158), .unset, .unset, .unset] []
  have Y252 := (Y243).keep K4_
  have Y253 := (Y244).keep K4_ (ninS hdA (ninS Y216 nin0))
  have RS := R4_
  refine blk (pc' := 68) (Ls' := #[.val (.int p0), .val (.int p1), .val (.int p2), .val (.int p3), .val (.int p4), .val (.ref x141), .val (.ref x158), .unset, .unset, .unset]) (st' := [(.int (5 : Int32))]) [oIconst w249.ok (dc.g 44 rfl)] rfl ?_
  have Y254 := (w249.old ozs).1
  refine w249.newarr (aty := .int) (wd hw 9 rfl) (dc.g 45 rfl) (c := 5) (by decide) (by decide) (cap := 5) (by first | decide | omega) (by first | decide | omega) (by decide) (by decide) rfl rfl ?_
  intro T255 h257 x258 w256 g259 E260 F261 S262
  show Go κ _ T255 70 #[.val (.int p0), .val (.int p1), .val (.int p2), .val (.int p3), .val (.int p4), .val (.ref x141), .val (.ref x158), .unset, .unset, .unset] [(.ref x258)]
  have Y263 := (F4_).lt
  have Y264 := (Y4_).lt
  have Y265 := (Y252).ext E260
  have Y266 := (Y253).ext E260
  have Y267 := (F4_).ext E260
  have Y268 := (Y4_).ext E260
  have Y269 := F261.ne_exa Y265 (wd hw 1 rfl)
  have Y270 : x258 ≠ A := by rw [g259]; exact Nat.ne_of_gt Y263
  have Y271 : x258 ≠ x158 := by rw [g259]; exact Nat.ne_of_gt Y264
  have Y272 := Ne.symm Y271
  have Y273 : Ary Z h257 x258 .int [0, 0, 0, 0, 0] := F261
  have Y274 : Z.heap.size ≤ x258 := by rw [g259]; exact Y254
  refine blk (pc' := 74) (Ls' := #[.val (.int p0), .val (.int p1), .val (.int p2), .val (.int p3), .val (.int p4), .val (.ref x141), .val (.ref x158), .val (.ref x258), .unset, .unset]) (st' := [(.int p4)]) [oAstore w256.ok (dc.g 46 rfl), oIload w256.ok (dc.g 47 rfl)] rfl ?_
  refine w256.ldcI (wd hw 32 rfl) (dc.g 48 rfl) ?_
  show Go κ _ T255 76 #[.val (.int p0), .val (.int p1), .val (.int p2), .val (.int p3), .val (.int p4), .val (.ref x141), .val (.ref x158), .val (.ref x258), .unset, .unset] [(.int (2147483647 : Int32)), (.int p4)]
  refine blk (pc' := 81) (Ls' := #[.val (.int p0), .val (.int p1), .val (.int p2), .val (.int p3), .val (.int p4), .val (.ref x141), .val (.ref x158), .val (.ref x258), .val (.int ((p4 &&& (2147483647 : Int32)) % (5 : Int32))), .unset]) (st' := []) [oIand w256.ok (dc.g 49 rfl), oIconst w256.ok (dc.g 50 rfl), oIrem w256.ok (dc.g 51 rfl), oIstore w256.ok (dc.g 52 rfl)] rfl ?_
  obtain ⟨kk, hkk, ekk⟩ := remNat p4 (2147483647 : Int32) (5 : Int32) 5 (by decide) (by decide) (by decide)
  rw [ekk]
  show Go κ _ T255 81 #[.val (.int p0), .val (.int p1), .val (.int p2), .val (.int p3), .val (.int p4), .val (.ref x141), .val (.ref x158), .val (.ref x258), .val (.int (Int32.ofNat kk)), .unset] []
  suffices k177 : ∀ (vm177 : Vm) (T177 : State) (h177 : Heap), W κ l room_1 Z [] "com/example/isomark/isomark/DisjointSetsRootPinLaw" "law" maxLocals ret vm177 T177 h177 4 16 → Ary Z h177 x258 .int ([Int32.ofNat (ρ4_ 0), Int32.ofNat (ρ4_ 1), Int32.ofNat (ρ4_ 2), Int32.ofNat (ρ4_ 3), Int32.ofNat (ρ4_ 4)] : List Int32) → Ary Z h177 x158 .int ([L4_ 0, L4_ 1, L4_ 2, L4_ 3, L4_ 4] : List Int32) → Go κ (GQ κ Z [] room_1 (fun v h' S => v = some (.int 1))) T177 177 #[.val (.int p0), .val (.int p1), .val (.int p2), .val (.int p3), .val (.int p4), .val (.ref x141), .val (.ref x158), .val (.ref x258), .val (.int (Int32.ofNat kk)), .unset] [] by
    obtain rfl | rfl | rfl | rfl | rfl : kk = 0 ∨ kk = 1 ∨ kk = 2 ∨ kk = 3 ∨ kk = 4 := by omega
    · show Go κ _ T255 81 #[.val (.int p0), .val (.int p1), .val (.int p2), .val (.int p3), .val (.int p4), .val (.ref x141), .val (.ref x158), .val (.ref x258), .val (.int (Int32.ofNat 0)), .unset] []
      refine blk (pc' := 93) (Ls' := #[.val (.int p0), .val (.int p1), .val (.int p2), .val (.int p3), .val (.int p4), .val (.ref x141), .val (.ref x158), .val (.ref x258), .val (.int (Int32.ofNat 0)), .unset]) (st' := [(.int ((Int32.ofNat 0) % (5 : Int32))), (.ref x141), (.int ((Int32.ofNat 0) % (5 : Int32))), (.ref x258)]) [oAload w256.ok (dc.g 53 rfl), oIload w256.ok (dc.g 54 rfl), oIconst w256.ok (dc.g 55 rfl), oIrem w256.ok (dc.g 56 rfl), oAload w256.ok (dc.g 57 rfl), oIload w256.ok (dc.g 58 rfl), oIconst w256.ok (dc.g 59 rfl), oIrem w256.ok (dc.g 60 rfl)] rfl ?_
      rw [show ((Int32.ofNat 0) % (5 : Int32)) = Int32.ofNat 0 from by decide]
      show Go κ _ T255 93 #[.val (.int p0), .val (.int p1), .val (.int p2), .val (.int p3), .val (.int p4), .val (.ref x141), .val (.ref x158), .val (.ref x258), .val (.int (Int32.ofNat 0)), .unset] [(.int (Int32.ofNat 0)), (.ref x141), (.int (Int32.ofNat 0)), (.ref x258)]
      show Go κ _ T255 93 #[.val (.int p0), .val (.int p1), .val (.int p2), .val (.int p3), .val (.int p4), .val (.ref x141), .val (.ref x158), .val (.ref x258), .val (.int (Int32.ofNat 0)), .unset] [(.int (Int32.ofNat 0)), (.ref x141), (.int (Int32.ofNat 0)), (.ref x258)]
      refine w256.callV (wd hw 46 rfl) (wd hw 39 rfl) (notFace (wd hw 41 rfl)) (wd hw 41 rfl) (wd hw 40 rfl) (by decide) (a := x141) Y265 (argsL := [(.int (Int32.ofNat 0))]) (Wd := 2) (Ctr.pays (len := 3) (Wd := 2) (c_root l Z a0 hw hEL (x := 0) Y265 Y266 Y267 RS (by decide) (by decide) hA0) w256 (wd hw 42 rfl) (wd hw 2 rfl) hEL (by decide) (by decide) sfNil) pd1 rfl (st := [(.int (Int32.ofNat 0)), (.ref x258)]) rfl rfl (Nat.le_of_eq rfl) (dc.g 61 rfl) (by decide) (by decide) ?_
      intro vm275 T276 h277 v278 w279 C280 Q281
      obtain ⟨qs282, rfl, K283, F284, R285⟩ := Q281
      show Go κ _ T276 96 #[.val (.int p0), .val (.int p1), .val (.int p2), .val (.int p3), .val (.int p4), .val (.ref x141), .val (.ref x158), .val (.ref x258), .val (.int (Int32.ofNat 0)), .unset] [(.int (Int32.ofNat (ρ4_ 0))), (.int (Int32.ofNat 0)), (.ref x258)]
      have Y286 := (Y265).keep K283
      have Y287 := (Y266).keep K283 (ninS hdA nin0)
      have Y288 := (Y268).keep K283 (ninS Y168 nin0)
      have Y289 := (Y273).keep K283 (ninS Y270 nin0)
      refine w279.ist Y289 (i := 0) rfl (by simp) Y274 (dc.g 62 rfl) ?_
      intro T290 h292 w291 W293 F294
      show Go κ _ T290 97 #[.val (.int p0), .val (.int p1), .val (.int p2), .val (.int p3), .val (.int p4), .val (.ref x141), .val (.ref x158), .val (.ref x258), .val (.int (Int32.ofNat 0)), .unset] []
      obtain ⟨slW293, vvW293, WW293⟩ := W293
      have Y295 := (Y286).wr WW293
      have Y296 := (Y287).other WW293 (Or.inl (Ne.symm Y269))
      have Y297 := (F284).other WW293 (Ne.symm Y270)
      have Y298 := (Y288).other WW293 Y272
      have Y299 : Ary Z h292 x258 .int [(Int32.ofNat (ρ4_ 0)), 0, 0, 0, 0] := F294
      refine blk (pc' := 113) (Ls' := #[.val (.int p0), .val (.int p1), .val (.int p2), .val (.int p3), .val (.int p4), .val (.ref x141), .val (.ref x158), .val (.ref x258), .val (.int (Int32.ofNat 0)), .unset]) (st' := [(.int (((Int32.ofNat 0) + (1 : Int32)) % (5 : Int32))), (.ref x141), (.int (((Int32.ofNat 0) + (1 : Int32)) % (5 : Int32))), (.ref x258)]) [oAload w291.ok (dc.g 63 rfl), oIload w291.ok (dc.g 64 rfl), oIconst w291.ok (dc.g 65 rfl), oIadd w291.ok (dc.g 66 rfl), oIconst w291.ok (dc.g 67 rfl), oIrem w291.ok (dc.g 68 rfl), oAload w291.ok (dc.g 69 rfl), oIload w291.ok (dc.g 70 rfl), oIconst w291.ok (dc.g 71 rfl), oIadd w291.ok (dc.g 72 rfl), oIconst w291.ok (dc.g 73 rfl), oIrem w291.ok (dc.g 74 rfl)] rfl ?_
      rw [show (((Int32.ofNat 0) + (1 : Int32)) % (5 : Int32)) = Int32.ofNat 1 from by decide]
      show Go κ _ T290 113 #[.val (.int p0), .val (.int p1), .val (.int p2), .val (.int p3), .val (.int p4), .val (.ref x141), .val (.ref x158), .val (.ref x258), .val (.int (Int32.ofNat 0)), .unset] [(.int (Int32.ofNat 1)), (.ref x141), (.int (Int32.ofNat 1)), (.ref x258)]
      show Go κ _ T290 113 #[.val (.int p0), .val (.int p1), .val (.int p2), .val (.int p3), .val (.int p4), .val (.ref x141), .val (.ref x158), .val (.ref x258), .val (.int (Int32.ofNat 0)), .unset] [(.int (Int32.ofNat 1)), (.ref x141), (.int (Int32.ofNat 1)), (.ref x258)]
      refine w291.callV (wd hw 46 rfl) (wd hw 39 rfl) (notFace (wd hw 41 rfl)) (wd hw 41 rfl) (wd hw 40 rfl) (by decide) (a := x141) Y295 (argsL := [(.int (Int32.ofNat 1))]) (Wd := 2) (Ctr.pays (len := 3) (Wd := 2) (c_root l Z a0 hw hEL (x := 1) Y295 Y296 Y297 R285 (by decide) (by decide) hA0) w291 (wd hw 42 rfl) (wd hw 2 rfl) hEL (by decide) (by decide) sfNil) pd1 rfl (st := [(.int (Int32.ofNat 1)), (.ref x258)]) rfl rfl (Nat.le_of_eq rfl) (dc.g 75 rfl) (by decide) (by decide) ?_
      intro vm300 T301 h302 v303 w304 C305 Q306
      obtain ⟨qs307, rfl, K308, F309, R310⟩ := Q306
      show Go κ _ T301 116 #[.val (.int p0), .val (.int p1), .val (.int p2), .val (.int p3), .val (.int p4), .val (.ref x141), .val (.ref x158), .val (.ref x258), .val (.int (Int32.ofNat 0)), .unset] [(.int (Int32.ofNat (ρ4_ 1))), (.int (Int32.ofNat 1)), (.ref x258)]
      have Y311 := (Y295).keep K308
      have Y312 := (Y296).keep K308 (ninS hdA nin0)
      have Y313 := (Y298).keep K308 (ninS Y168 nin0)
      have Y314 := (Y299).keep K308 (ninS Y270 nin0)
      refine w304.ist Y314 (i := 1) rfl (by simp) Y274 (dc.g 76 rfl) ?_
      intro T315 h317 w316 W318 F319
      show Go κ _ T315 117 #[.val (.int p0), .val (.int p1), .val (.int p2), .val (.int p3), .val (.int p4), .val (.ref x141), .val (.ref x158), .val (.ref x258), .val (.int (Int32.ofNat 0)), .unset] []
      obtain ⟨slW318, vvW318, WW318⟩ := W318
      have Y320 := (Y311).wr WW318
      have Y321 := (Y312).other WW318 (Or.inl (Ne.symm Y269))
      have Y322 := (F309).other WW318 (Ne.symm Y270)
      have Y323 := (Y313).other WW318 Y272
      have Y324 : Ary Z h317 x258 .int [(Int32.ofNat (ρ4_ 0)), (Int32.ofNat (ρ4_ 1)), 0, 0, 0] := F319
      refine blk (pc' := 133) (Ls' := #[.val (.int p0), .val (.int p1), .val (.int p2), .val (.int p3), .val (.int p4), .val (.ref x141), .val (.ref x158), .val (.ref x258), .val (.int (Int32.ofNat 0)), .unset]) (st' := [(.int (((Int32.ofNat 0) + (2 : Int32)) % (5 : Int32))), (.ref x141), (.int (((Int32.ofNat 0) + (2 : Int32)) % (5 : Int32))), (.ref x258)]) [oAload w316.ok (dc.g 77 rfl), oIload w316.ok (dc.g 78 rfl), oIconst w316.ok (dc.g 79 rfl), oIadd w316.ok (dc.g 80 rfl), oIconst w316.ok (dc.g 81 rfl), oIrem w316.ok (dc.g 82 rfl), oAload w316.ok (dc.g 83 rfl), oIload w316.ok (dc.g 84 rfl), oIconst w316.ok (dc.g 85 rfl), oIadd w316.ok (dc.g 86 rfl), oIconst w316.ok (dc.g 87 rfl), oIrem w316.ok (dc.g 88 rfl)] rfl ?_
      rw [show (((Int32.ofNat 0) + (2 : Int32)) % (5 : Int32)) = Int32.ofNat 2 from by decide]
      show Go κ _ T315 133 #[.val (.int p0), .val (.int p1), .val (.int p2), .val (.int p3), .val (.int p4), .val (.ref x141), .val (.ref x158), .val (.ref x258), .val (.int (Int32.ofNat 0)), .unset] [(.int (Int32.ofNat 2)), (.ref x141), (.int (Int32.ofNat 2)), (.ref x258)]
      show Go κ _ T315 133 #[.val (.int p0), .val (.int p1), .val (.int p2), .val (.int p3), .val (.int p4), .val (.ref x141), .val (.ref x158), .val (.ref x258), .val (.int (Int32.ofNat 0)), .unset] [(.int (Int32.ofNat 2)), (.ref x141), (.int (Int32.ofNat 2)), (.ref x258)]
      refine w316.callV (wd hw 46 rfl) (wd hw 39 rfl) (notFace (wd hw 41 rfl)) (wd hw 41 rfl) (wd hw 40 rfl) (by decide) (a := x141) Y320 (argsL := [(.int (Int32.ofNat 2))]) (Wd := 2) (Ctr.pays (len := 3) (Wd := 2) (c_root l Z a0 hw hEL (x := 2) Y320 Y321 Y322 R310 (by decide) (by decide) hA0) w316 (wd hw 42 rfl) (wd hw 2 rfl) hEL (by decide) (by decide) sfNil) pd1 rfl (st := [(.int (Int32.ofNat 2)), (.ref x258)]) rfl rfl (Nat.le_of_eq rfl) (dc.g 89 rfl) (by decide) (by decide) ?_
      intro vm325 T326 h327 v328 w329 C330 Q331
      obtain ⟨qs332, rfl, K333, F334, R335⟩ := Q331
      show Go κ _ T326 136 #[.val (.int p0), .val (.int p1), .val (.int p2), .val (.int p3), .val (.int p4), .val (.ref x141), .val (.ref x158), .val (.ref x258), .val (.int (Int32.ofNat 0)), .unset] [(.int (Int32.ofNat (ρ4_ 2))), (.int (Int32.ofNat 2)), (.ref x258)]
      have Y336 := (Y320).keep K333
      have Y337 := (Y321).keep K333 (ninS hdA nin0)
      have Y338 := (Y323).keep K333 (ninS Y168 nin0)
      have Y339 := (Y324).keep K333 (ninS Y270 nin0)
      refine w329.ist Y339 (i := 2) rfl (by simp) Y274 (dc.g 90 rfl) ?_
      intro T340 h342 w341 W343 F344
      show Go κ _ T340 137 #[.val (.int p0), .val (.int p1), .val (.int p2), .val (.int p3), .val (.int p4), .val (.ref x141), .val (.ref x158), .val (.ref x258), .val (.int (Int32.ofNat 0)), .unset] []
      obtain ⟨slW343, vvW343, WW343⟩ := W343
      have Y345 := (Y336).wr WW343
      have Y346 := (Y337).other WW343 (Or.inl (Ne.symm Y269))
      have Y347 := (F334).other WW343 (Ne.symm Y270)
      have Y348 := (Y338).other WW343 Y272
      have Y349 : Ary Z h342 x258 .int [(Int32.ofNat (ρ4_ 0)), (Int32.ofNat (ρ4_ 1)), (Int32.ofNat (ρ4_ 2)), 0, 0] := F344
      refine blk (pc' := 153) (Ls' := #[.val (.int p0), .val (.int p1), .val (.int p2), .val (.int p3), .val (.int p4), .val (.ref x141), .val (.ref x158), .val (.ref x258), .val (.int (Int32.ofNat 0)), .unset]) (st' := [(.int (((Int32.ofNat 0) + (3 : Int32)) % (5 : Int32))), (.ref x141), (.int (((Int32.ofNat 0) + (3 : Int32)) % (5 : Int32))), (.ref x258)]) [oAload w341.ok (dc.g 91 rfl), oIload w341.ok (dc.g 92 rfl), oIconst w341.ok (dc.g 93 rfl), oIadd w341.ok (dc.g 94 rfl), oIconst w341.ok (dc.g 95 rfl), oIrem w341.ok (dc.g 96 rfl), oAload w341.ok (dc.g 97 rfl), oIload w341.ok (dc.g 98 rfl), oIconst w341.ok (dc.g 99 rfl), oIadd w341.ok (dc.g 100 rfl), oIconst w341.ok (dc.g 101 rfl), oIrem w341.ok (dc.g 102 rfl)] rfl ?_
      rw [show (((Int32.ofNat 0) + (3 : Int32)) % (5 : Int32)) = Int32.ofNat 3 from by decide]
      show Go κ _ T340 153 #[.val (.int p0), .val (.int p1), .val (.int p2), .val (.int p3), .val (.int p4), .val (.ref x141), .val (.ref x158), .val (.ref x258), .val (.int (Int32.ofNat 0)), .unset] [(.int (Int32.ofNat 3)), (.ref x141), (.int (Int32.ofNat 3)), (.ref x258)]
      show Go κ _ T340 153 #[.val (.int p0), .val (.int p1), .val (.int p2), .val (.int p3), .val (.int p4), .val (.ref x141), .val (.ref x158), .val (.ref x258), .val (.int (Int32.ofNat 0)), .unset] [(.int (Int32.ofNat 3)), (.ref x141), (.int (Int32.ofNat 3)), (.ref x258)]
      refine w341.callV (wd hw 46 rfl) (wd hw 39 rfl) (notFace (wd hw 41 rfl)) (wd hw 41 rfl) (wd hw 40 rfl) (by decide) (a := x141) Y345 (argsL := [(.int (Int32.ofNat 3))]) (Wd := 2) (Ctr.pays (len := 3) (Wd := 2) (c_root l Z a0 hw hEL (x := 3) Y345 Y346 Y347 R335 (by decide) (by decide) hA0) w341 (wd hw 42 rfl) (wd hw 2 rfl) hEL (by decide) (by decide) sfNil) pd1 rfl (st := [(.int (Int32.ofNat 3)), (.ref x258)]) rfl rfl (Nat.le_of_eq rfl) (dc.g 103 rfl) (by decide) (by decide) ?_
      intro vm350 T351 h352 v353 w354 C355 Q356
      obtain ⟨qs357, rfl, K358, F359, R360⟩ := Q356
      show Go κ _ T351 156 #[.val (.int p0), .val (.int p1), .val (.int p2), .val (.int p3), .val (.int p4), .val (.ref x141), .val (.ref x158), .val (.ref x258), .val (.int (Int32.ofNat 0)), .unset] [(.int (Int32.ofNat (ρ4_ 3))), (.int (Int32.ofNat 3)), (.ref x258)]
      have Y361 := (Y345).keep K358
      have Y362 := (Y346).keep K358 (ninS hdA nin0)
      have Y363 := (Y348).keep K358 (ninS Y168 nin0)
      have Y364 := (Y349).keep K358 (ninS Y270 nin0)
      refine w354.ist Y364 (i := 3) rfl (by simp) Y274 (dc.g 104 rfl) ?_
      intro T365 h367 w366 W368 F369
      show Go κ _ T365 157 #[.val (.int p0), .val (.int p1), .val (.int p2), .val (.int p3), .val (.int p4), .val (.ref x141), .val (.ref x158), .val (.ref x258), .val (.int (Int32.ofNat 0)), .unset] []
      obtain ⟨slW368, vvW368, WW368⟩ := W368
      have Y370 := (Y361).wr WW368
      have Y371 := (Y362).other WW368 (Or.inl (Ne.symm Y269))
      have Y372 := (F359).other WW368 (Ne.symm Y270)
      have Y373 := (Y363).other WW368 Y272
      have Y374 : Ary Z h367 x258 .int [(Int32.ofNat (ρ4_ 0)), (Int32.ofNat (ρ4_ 1)), (Int32.ofNat (ρ4_ 2)), (Int32.ofNat (ρ4_ 3)), 0] := F369
      refine blk (pc' := 173) (Ls' := #[.val (.int p0), .val (.int p1), .val (.int p2), .val (.int p3), .val (.int p4), .val (.ref x141), .val (.ref x158), .val (.ref x258), .val (.int (Int32.ofNat 0)), .unset]) (st' := [(.int (((Int32.ofNat 0) + (4 : Int32)) % (5 : Int32))), (.ref x141), (.int (((Int32.ofNat 0) + (4 : Int32)) % (5 : Int32))), (.ref x258)]) [oAload w366.ok (dc.g 105 rfl), oIload w366.ok (dc.g 106 rfl), oIconst w366.ok (dc.g 107 rfl), oIadd w366.ok (dc.g 108 rfl), oIconst w366.ok (dc.g 109 rfl), oIrem w366.ok (dc.g 110 rfl), oAload w366.ok (dc.g 111 rfl), oIload w366.ok (dc.g 112 rfl), oIconst w366.ok (dc.g 113 rfl), oIadd w366.ok (dc.g 114 rfl), oIconst w366.ok (dc.g 115 rfl), oIrem w366.ok (dc.g 116 rfl)] rfl ?_
      rw [show (((Int32.ofNat 0) + (4 : Int32)) % (5 : Int32)) = Int32.ofNat 4 from by decide]
      show Go κ _ T365 173 #[.val (.int p0), .val (.int p1), .val (.int p2), .val (.int p3), .val (.int p4), .val (.ref x141), .val (.ref x158), .val (.ref x258), .val (.int (Int32.ofNat 0)), .unset] [(.int (Int32.ofNat 4)), (.ref x141), (.int (Int32.ofNat 4)), (.ref x258)]
      show Go κ _ T365 173 #[.val (.int p0), .val (.int p1), .val (.int p2), .val (.int p3), .val (.int p4), .val (.ref x141), .val (.ref x158), .val (.ref x258), .val (.int (Int32.ofNat 0)), .unset] [(.int (Int32.ofNat 4)), (.ref x141), (.int (Int32.ofNat 4)), (.ref x258)]
      refine w366.callV (wd hw 46 rfl) (wd hw 39 rfl) (notFace (wd hw 41 rfl)) (wd hw 41 rfl) (wd hw 40 rfl) (by decide) (a := x141) Y370 (argsL := [(.int (Int32.ofNat 4))]) (Wd := 2) (Ctr.pays (len := 3) (Wd := 2) (c_root l Z a0 hw hEL (x := 4) Y370 Y371 Y372 R360 (by decide) (by decide) hA0) w366 (wd hw 42 rfl) (wd hw 2 rfl) hEL (by decide) (by decide) sfNil) pd1 rfl (st := [(.int (Int32.ofNat 4)), (.ref x258)]) rfl rfl (Nat.le_of_eq rfl) (dc.g 117 rfl) (by decide) (by decide) ?_
      intro vm375 T376 h377 v378 w379 C380 Q381
      obtain ⟨qs382, rfl, K383, F384, R385⟩ := Q381
      show Go κ _ T376 176 #[.val (.int p0), .val (.int p1), .val (.int p2), .val (.int p3), .val (.int p4), .val (.ref x141), .val (.ref x158), .val (.ref x258), .val (.int (Int32.ofNat 0)), .unset] [(.int (Int32.ofNat (ρ4_ 4))), (.int (Int32.ofNat 4)), (.ref x258)]
      have Y386 := (Y370).keep K383
      have Y387 := (Y371).keep K383 (ninS hdA nin0)
      have Y388 := (Y373).keep K383 (ninS Y168 nin0)
      have Y389 := (Y374).keep K383 (ninS Y270 nin0)
      refine w379.ist Y389 (i := 4) rfl (by simp) Y274 (dc.g 118 rfl) ?_
      intro T390 h392 w391 W393 F394
      show Go κ _ T390 177 #[.val (.int p0), .val (.int p1), .val (.int p2), .val (.int p3), .val (.int p4), .val (.ref x141), .val (.ref x158), .val (.ref x258), .val (.int (Int32.ofNat 0)), .unset] []
      obtain ⟨slW393, vvW393, WW393⟩ := W393
      have Y395 := (Y386).wr WW393
      have Y396 := (Y387).other WW393 (Or.inl (Ne.symm Y269))
      have Y397 := (F384).other WW393 (Ne.symm Y270)
      have Y398 := (Y388).other WW393 Y272
      have Y399 : Ary Z h392 x258 .int [(Int32.ofNat (ρ4_ 0)), (Int32.ofNat (ρ4_ 1)), (Int32.ofNat (ρ4_ 2)), (Int32.ofNat (ρ4_ 3)), (Int32.ofNat (ρ4_ 4))] := F394
      exact k177 _ _ _ (w391.mono (by decide) (by decide)) Y399 Y398
    · show Go κ _ T255 81 #[.val (.int p0), .val (.int p1), .val (.int p2), .val (.int p3), .val (.int p4), .val (.ref x141), .val (.ref x158), .val (.ref x258), .val (.int (Int32.ofNat 1)), .unset] []
      refine blk (pc' := 93) (Ls' := #[.val (.int p0), .val (.int p1), .val (.int p2), .val (.int p3), .val (.int p4), .val (.ref x141), .val (.ref x158), .val (.ref x258), .val (.int (Int32.ofNat 1)), .unset]) (st' := [(.int ((Int32.ofNat 1) % (5 : Int32))), (.ref x141), (.int ((Int32.ofNat 1) % (5 : Int32))), (.ref x258)]) [oAload w256.ok (dc.g 53 rfl), oIload w256.ok (dc.g 54 rfl), oIconst w256.ok (dc.g 55 rfl), oIrem w256.ok (dc.g 56 rfl), oAload w256.ok (dc.g 57 rfl), oIload w256.ok (dc.g 58 rfl), oIconst w256.ok (dc.g 59 rfl), oIrem w256.ok (dc.g 60 rfl)] rfl ?_
      rw [show ((Int32.ofNat 1) % (5 : Int32)) = Int32.ofNat 1 from by decide]
      show Go κ _ T255 93 #[.val (.int p0), .val (.int p1), .val (.int p2), .val (.int p3), .val (.int p4), .val (.ref x141), .val (.ref x158), .val (.ref x258), .val (.int (Int32.ofNat 1)), .unset] [(.int (Int32.ofNat 1)), (.ref x141), (.int (Int32.ofNat 1)), (.ref x258)]
      show Go κ _ T255 93 #[.val (.int p0), .val (.int p1), .val (.int p2), .val (.int p3), .val (.int p4), .val (.ref x141), .val (.ref x158), .val (.ref x258), .val (.int (Int32.ofNat 1)), .unset] [(.int (Int32.ofNat 1)), (.ref x141), (.int (Int32.ofNat 1)), (.ref x258)]
      refine w256.callV (wd hw 46 rfl) (wd hw 39 rfl) (notFace (wd hw 41 rfl)) (wd hw 41 rfl) (wd hw 40 rfl) (by decide) (a := x141) Y265 (argsL := [(.int (Int32.ofNat 1))]) (Wd := 2) (Ctr.pays (len := 3) (Wd := 2) (c_root l Z a0 hw hEL (x := 1) Y265 Y266 Y267 RS (by decide) (by decide) hA0) w256 (wd hw 42 rfl) (wd hw 2 rfl) hEL (by decide) (by decide) sfNil) pd1 rfl (st := [(.int (Int32.ofNat 1)), (.ref x258)]) rfl rfl (Nat.le_of_eq rfl) (dc.g 61 rfl) (by decide) (by decide) ?_
      intro vm400 T401 h402 v403 w404 C405 Q406
      obtain ⟨qs407, rfl, K408, F409, R410⟩ := Q406
      show Go κ _ T401 96 #[.val (.int p0), .val (.int p1), .val (.int p2), .val (.int p3), .val (.int p4), .val (.ref x141), .val (.ref x158), .val (.ref x258), .val (.int (Int32.ofNat 1)), .unset] [(.int (Int32.ofNat (ρ4_ 1))), (.int (Int32.ofNat 1)), (.ref x258)]
      have Y411 := (Y265).keep K408
      have Y412 := (Y266).keep K408 (ninS hdA nin0)
      have Y413 := (Y268).keep K408 (ninS Y168 nin0)
      have Y414 := (Y273).keep K408 (ninS Y270 nin0)
      refine w404.ist Y414 (i := 1) rfl (by simp) Y274 (dc.g 62 rfl) ?_
      intro T415 h417 w416 W418 F419
      show Go κ _ T415 97 #[.val (.int p0), .val (.int p1), .val (.int p2), .val (.int p3), .val (.int p4), .val (.ref x141), .val (.ref x158), .val (.ref x258), .val (.int (Int32.ofNat 1)), .unset] []
      obtain ⟨slW418, vvW418, WW418⟩ := W418
      have Y420 := (Y411).wr WW418
      have Y421 := (Y412).other WW418 (Or.inl (Ne.symm Y269))
      have Y422 := (F409).other WW418 (Ne.symm Y270)
      have Y423 := (Y413).other WW418 Y272
      have Y424 : Ary Z h417 x258 .int [0, (Int32.ofNat (ρ4_ 1)), 0, 0, 0] := F419
      refine blk (pc' := 113) (Ls' := #[.val (.int p0), .val (.int p1), .val (.int p2), .val (.int p3), .val (.int p4), .val (.ref x141), .val (.ref x158), .val (.ref x258), .val (.int (Int32.ofNat 1)), .unset]) (st' := [(.int (((Int32.ofNat 1) + (1 : Int32)) % (5 : Int32))), (.ref x141), (.int (((Int32.ofNat 1) + (1 : Int32)) % (5 : Int32))), (.ref x258)]) [oAload w416.ok (dc.g 63 rfl), oIload w416.ok (dc.g 64 rfl), oIconst w416.ok (dc.g 65 rfl), oIadd w416.ok (dc.g 66 rfl), oIconst w416.ok (dc.g 67 rfl), oIrem w416.ok (dc.g 68 rfl), oAload w416.ok (dc.g 69 rfl), oIload w416.ok (dc.g 70 rfl), oIconst w416.ok (dc.g 71 rfl), oIadd w416.ok (dc.g 72 rfl), oIconst w416.ok (dc.g 73 rfl), oIrem w416.ok (dc.g 74 rfl)] rfl ?_
      rw [show (((Int32.ofNat 1) + (1 : Int32)) % (5 : Int32)) = Int32.ofNat 2 from by decide]
      show Go κ _ T415 113 #[.val (.int p0), .val (.int p1), .val (.int p2), .val (.int p3), .val (.int p4), .val (.ref x141), .val (.ref x158), .val (.ref x258), .val (.int (Int32.ofNat 1)), .unset] [(.int (Int32.ofNat 2)), (.ref x141), (.int (Int32.ofNat 2)), (.ref x258)]
      show Go κ _ T415 113 #[.val (.int p0), .val (.int p1), .val (.int p2), .val (.int p3), .val (.int p4), .val (.ref x141), .val (.ref x158), .val (.ref x258), .val (.int (Int32.ofNat 1)), .unset] [(.int (Int32.ofNat 2)), (.ref x141), (.int (Int32.ofNat 2)), (.ref x258)]
      refine w416.callV (wd hw 46 rfl) (wd hw 39 rfl) (notFace (wd hw 41 rfl)) (wd hw 41 rfl) (wd hw 40 rfl) (by decide) (a := x141) Y420 (argsL := [(.int (Int32.ofNat 2))]) (Wd := 2) (Ctr.pays (len := 3) (Wd := 2) (c_root l Z a0 hw hEL (x := 2) Y420 Y421 Y422 R410 (by decide) (by decide) hA0) w416 (wd hw 42 rfl) (wd hw 2 rfl) hEL (by decide) (by decide) sfNil) pd1 rfl (st := [(.int (Int32.ofNat 2)), (.ref x258)]) rfl rfl (Nat.le_of_eq rfl) (dc.g 75 rfl) (by decide) (by decide) ?_
      intro vm425 T426 h427 v428 w429 C430 Q431
      obtain ⟨qs432, rfl, K433, F434, R435⟩ := Q431
      show Go κ _ T426 116 #[.val (.int p0), .val (.int p1), .val (.int p2), .val (.int p3), .val (.int p4), .val (.ref x141), .val (.ref x158), .val (.ref x258), .val (.int (Int32.ofNat 1)), .unset] [(.int (Int32.ofNat (ρ4_ 2))), (.int (Int32.ofNat 2)), (.ref x258)]
      have Y436 := (Y420).keep K433
      have Y437 := (Y421).keep K433 (ninS hdA nin0)
      have Y438 := (Y423).keep K433 (ninS Y168 nin0)
      have Y439 := (Y424).keep K433 (ninS Y270 nin0)
      refine w429.ist Y439 (i := 2) rfl (by simp) Y274 (dc.g 76 rfl) ?_
      intro T440 h442 w441 W443 F444
      show Go κ _ T440 117 #[.val (.int p0), .val (.int p1), .val (.int p2), .val (.int p3), .val (.int p4), .val (.ref x141), .val (.ref x158), .val (.ref x258), .val (.int (Int32.ofNat 1)), .unset] []
      obtain ⟨slW443, vvW443, WW443⟩ := W443
      have Y445 := (Y436).wr WW443
      have Y446 := (Y437).other WW443 (Or.inl (Ne.symm Y269))
      have Y447 := (F434).other WW443 (Ne.symm Y270)
      have Y448 := (Y438).other WW443 Y272
      have Y449 : Ary Z h442 x258 .int [0, (Int32.ofNat (ρ4_ 1)), (Int32.ofNat (ρ4_ 2)), 0, 0] := F444
      refine blk (pc' := 133) (Ls' := #[.val (.int p0), .val (.int p1), .val (.int p2), .val (.int p3), .val (.int p4), .val (.ref x141), .val (.ref x158), .val (.ref x258), .val (.int (Int32.ofNat 1)), .unset]) (st' := [(.int (((Int32.ofNat 1) + (2 : Int32)) % (5 : Int32))), (.ref x141), (.int (((Int32.ofNat 1) + (2 : Int32)) % (5 : Int32))), (.ref x258)]) [oAload w441.ok (dc.g 77 rfl), oIload w441.ok (dc.g 78 rfl), oIconst w441.ok (dc.g 79 rfl), oIadd w441.ok (dc.g 80 rfl), oIconst w441.ok (dc.g 81 rfl), oIrem w441.ok (dc.g 82 rfl), oAload w441.ok (dc.g 83 rfl), oIload w441.ok (dc.g 84 rfl), oIconst w441.ok (dc.g 85 rfl), oIadd w441.ok (dc.g 86 rfl), oIconst w441.ok (dc.g 87 rfl), oIrem w441.ok (dc.g 88 rfl)] rfl ?_
      rw [show (((Int32.ofNat 1) + (2 : Int32)) % (5 : Int32)) = Int32.ofNat 3 from by decide]
      show Go κ _ T440 133 #[.val (.int p0), .val (.int p1), .val (.int p2), .val (.int p3), .val (.int p4), .val (.ref x141), .val (.ref x158), .val (.ref x258), .val (.int (Int32.ofNat 1)), .unset] [(.int (Int32.ofNat 3)), (.ref x141), (.int (Int32.ofNat 3)), (.ref x258)]
      show Go κ _ T440 133 #[.val (.int p0), .val (.int p1), .val (.int p2), .val (.int p3), .val (.int p4), .val (.ref x141), .val (.ref x158), .val (.ref x258), .val (.int (Int32.ofNat 1)), .unset] [(.int (Int32.ofNat 3)), (.ref x141), (.int (Int32.ofNat 3)), (.ref x258)]
      refine w441.callV (wd hw 46 rfl) (wd hw 39 rfl) (notFace (wd hw 41 rfl)) (wd hw 41 rfl) (wd hw 40 rfl) (by decide) (a := x141) Y445 (argsL := [(.int (Int32.ofNat 3))]) (Wd := 2) (Ctr.pays (len := 3) (Wd := 2) (c_root l Z a0 hw hEL (x := 3) Y445 Y446 Y447 R435 (by decide) (by decide) hA0) w441 (wd hw 42 rfl) (wd hw 2 rfl) hEL (by decide) (by decide) sfNil) pd1 rfl (st := [(.int (Int32.ofNat 3)), (.ref x258)]) rfl rfl (Nat.le_of_eq rfl) (dc.g 89 rfl) (by decide) (by decide) ?_
      intro vm450 T451 h452 v453 w454 C455 Q456
      obtain ⟨qs457, rfl, K458, F459, R460⟩ := Q456
      show Go κ _ T451 136 #[.val (.int p0), .val (.int p1), .val (.int p2), .val (.int p3), .val (.int p4), .val (.ref x141), .val (.ref x158), .val (.ref x258), .val (.int (Int32.ofNat 1)), .unset] [(.int (Int32.ofNat (ρ4_ 3))), (.int (Int32.ofNat 3)), (.ref x258)]
      have Y461 := (Y445).keep K458
      have Y462 := (Y446).keep K458 (ninS hdA nin0)
      have Y463 := (Y448).keep K458 (ninS Y168 nin0)
      have Y464 := (Y449).keep K458 (ninS Y270 nin0)
      refine w454.ist Y464 (i := 3) rfl (by simp) Y274 (dc.g 90 rfl) ?_
      intro T465 h467 w466 W468 F469
      show Go κ _ T465 137 #[.val (.int p0), .val (.int p1), .val (.int p2), .val (.int p3), .val (.int p4), .val (.ref x141), .val (.ref x158), .val (.ref x258), .val (.int (Int32.ofNat 1)), .unset] []
      obtain ⟨slW468, vvW468, WW468⟩ := W468
      have Y470 := (Y461).wr WW468
      have Y471 := (Y462).other WW468 (Or.inl (Ne.symm Y269))
      have Y472 := (F459).other WW468 (Ne.symm Y270)
      have Y473 := (Y463).other WW468 Y272
      have Y474 : Ary Z h467 x258 .int [0, (Int32.ofNat (ρ4_ 1)), (Int32.ofNat (ρ4_ 2)), (Int32.ofNat (ρ4_ 3)), 0] := F469
      refine blk (pc' := 153) (Ls' := #[.val (.int p0), .val (.int p1), .val (.int p2), .val (.int p3), .val (.int p4), .val (.ref x141), .val (.ref x158), .val (.ref x258), .val (.int (Int32.ofNat 1)), .unset]) (st' := [(.int (((Int32.ofNat 1) + (3 : Int32)) % (5 : Int32))), (.ref x141), (.int (((Int32.ofNat 1) + (3 : Int32)) % (5 : Int32))), (.ref x258)]) [oAload w466.ok (dc.g 91 rfl), oIload w466.ok (dc.g 92 rfl), oIconst w466.ok (dc.g 93 rfl), oIadd w466.ok (dc.g 94 rfl), oIconst w466.ok (dc.g 95 rfl), oIrem w466.ok (dc.g 96 rfl), oAload w466.ok (dc.g 97 rfl), oIload w466.ok (dc.g 98 rfl), oIconst w466.ok (dc.g 99 rfl), oIadd w466.ok (dc.g 100 rfl), oIconst w466.ok (dc.g 101 rfl), oIrem w466.ok (dc.g 102 rfl)] rfl ?_
      rw [show (((Int32.ofNat 1) + (3 : Int32)) % (5 : Int32)) = Int32.ofNat 4 from by decide]
      show Go κ _ T465 153 #[.val (.int p0), .val (.int p1), .val (.int p2), .val (.int p3), .val (.int p4), .val (.ref x141), .val (.ref x158), .val (.ref x258), .val (.int (Int32.ofNat 1)), .unset] [(.int (Int32.ofNat 4)), (.ref x141), (.int (Int32.ofNat 4)), (.ref x258)]
      show Go κ _ T465 153 #[.val (.int p0), .val (.int p1), .val (.int p2), .val (.int p3), .val (.int p4), .val (.ref x141), .val (.ref x158), .val (.ref x258), .val (.int (Int32.ofNat 1)), .unset] [(.int (Int32.ofNat 4)), (.ref x141), (.int (Int32.ofNat 4)), (.ref x258)]
      refine w466.callV (wd hw 46 rfl) (wd hw 39 rfl) (notFace (wd hw 41 rfl)) (wd hw 41 rfl) (wd hw 40 rfl) (by decide) (a := x141) Y470 (argsL := [(.int (Int32.ofNat 4))]) (Wd := 2) (Ctr.pays (len := 3) (Wd := 2) (c_root l Z a0 hw hEL (x := 4) Y470 Y471 Y472 R460 (by decide) (by decide) hA0) w466 (wd hw 42 rfl) (wd hw 2 rfl) hEL (by decide) (by decide) sfNil) pd1 rfl (st := [(.int (Int32.ofNat 4)), (.ref x258)]) rfl rfl (Nat.le_of_eq rfl) (dc.g 103 rfl) (by decide) (by decide) ?_
      intro vm475 T476 h477 v478 w479 C480 Q481
      obtain ⟨qs482, rfl, K483, F484, R485⟩ := Q481
      show Go κ _ T476 156 #[.val (.int p0), .val (.int p1), .val (.int p2), .val (.int p3), .val (.int p4), .val (.ref x141), .val (.ref x158), .val (.ref x258), .val (.int (Int32.ofNat 1)), .unset] [(.int (Int32.ofNat (ρ4_ 4))), (.int (Int32.ofNat 4)), (.ref x258)]
      have Y486 := (Y470).keep K483
      have Y487 := (Y471).keep K483 (ninS hdA nin0)
      have Y488 := (Y473).keep K483 (ninS Y168 nin0)
      have Y489 := (Y474).keep K483 (ninS Y270 nin0)
      refine w479.ist Y489 (i := 4) rfl (by simp) Y274 (dc.g 104 rfl) ?_
      intro T490 h492 w491 W493 F494
      show Go κ _ T490 157 #[.val (.int p0), .val (.int p1), .val (.int p2), .val (.int p3), .val (.int p4), .val (.ref x141), .val (.ref x158), .val (.ref x258), .val (.int (Int32.ofNat 1)), .unset] []
      obtain ⟨slW493, vvW493, WW493⟩ := W493
      have Y495 := (Y486).wr WW493
      have Y496 := (Y487).other WW493 (Or.inl (Ne.symm Y269))
      have Y497 := (F484).other WW493 (Ne.symm Y270)
      have Y498 := (Y488).other WW493 Y272
      have Y499 : Ary Z h492 x258 .int [0, (Int32.ofNat (ρ4_ 1)), (Int32.ofNat (ρ4_ 2)), (Int32.ofNat (ρ4_ 3)), (Int32.ofNat (ρ4_ 4))] := F494
      refine blk (pc' := 173) (Ls' := #[.val (.int p0), .val (.int p1), .val (.int p2), .val (.int p3), .val (.int p4), .val (.ref x141), .val (.ref x158), .val (.ref x258), .val (.int (Int32.ofNat 1)), .unset]) (st' := [(.int (((Int32.ofNat 1) + (4 : Int32)) % (5 : Int32))), (.ref x141), (.int (((Int32.ofNat 1) + (4 : Int32)) % (5 : Int32))), (.ref x258)]) [oAload w491.ok (dc.g 105 rfl), oIload w491.ok (dc.g 106 rfl), oIconst w491.ok (dc.g 107 rfl), oIadd w491.ok (dc.g 108 rfl), oIconst w491.ok (dc.g 109 rfl), oIrem w491.ok (dc.g 110 rfl), oAload w491.ok (dc.g 111 rfl), oIload w491.ok (dc.g 112 rfl), oIconst w491.ok (dc.g 113 rfl), oIadd w491.ok (dc.g 114 rfl), oIconst w491.ok (dc.g 115 rfl), oIrem w491.ok (dc.g 116 rfl)] rfl ?_
      rw [show (((Int32.ofNat 1) + (4 : Int32)) % (5 : Int32)) = Int32.ofNat 0 from by decide]
      show Go κ _ T490 173 #[.val (.int p0), .val (.int p1), .val (.int p2), .val (.int p3), .val (.int p4), .val (.ref x141), .val (.ref x158), .val (.ref x258), .val (.int (Int32.ofNat 1)), .unset] [(.int (Int32.ofNat 0)), (.ref x141), (.int (Int32.ofNat 0)), (.ref x258)]
      show Go κ _ T490 173 #[.val (.int p0), .val (.int p1), .val (.int p2), .val (.int p3), .val (.int p4), .val (.ref x141), .val (.ref x158), .val (.ref x258), .val (.int (Int32.ofNat 1)), .unset] [(.int (Int32.ofNat 0)), (.ref x141), (.int (Int32.ofNat 0)), (.ref x258)]
      refine w491.callV (wd hw 46 rfl) (wd hw 39 rfl) (notFace (wd hw 41 rfl)) (wd hw 41 rfl) (wd hw 40 rfl) (by decide) (a := x141) Y495 (argsL := [(.int (Int32.ofNat 0))]) (Wd := 2) (Ctr.pays (len := 3) (Wd := 2) (c_root l Z a0 hw hEL (x := 0) Y495 Y496 Y497 R485 (by decide) (by decide) hA0) w491 (wd hw 42 rfl) (wd hw 2 rfl) hEL (by decide) (by decide) sfNil) pd1 rfl (st := [(.int (Int32.ofNat 0)), (.ref x258)]) rfl rfl (Nat.le_of_eq rfl) (dc.g 117 rfl) (by decide) (by decide) ?_
      intro vm500 T501 h502 v503 w504 C505 Q506
      obtain ⟨qs507, rfl, K508, F509, R510⟩ := Q506
      show Go κ _ T501 176 #[.val (.int p0), .val (.int p1), .val (.int p2), .val (.int p3), .val (.int p4), .val (.ref x141), .val (.ref x158), .val (.ref x258), .val (.int (Int32.ofNat 1)), .unset] [(.int (Int32.ofNat (ρ4_ 0))), (.int (Int32.ofNat 0)), (.ref x258)]
      have Y511 := (Y495).keep K508
      have Y512 := (Y496).keep K508 (ninS hdA nin0)
      have Y513 := (Y498).keep K508 (ninS Y168 nin0)
      have Y514 := (Y499).keep K508 (ninS Y270 nin0)
      refine w504.ist Y514 (i := 0) rfl (by simp) Y274 (dc.g 118 rfl) ?_
      intro T515 h517 w516 W518 F519
      show Go κ _ T515 177 #[.val (.int p0), .val (.int p1), .val (.int p2), .val (.int p3), .val (.int p4), .val (.ref x141), .val (.ref x158), .val (.ref x258), .val (.int (Int32.ofNat 1)), .unset] []
      obtain ⟨slW518, vvW518, WW518⟩ := W518
      have Y520 := (Y511).wr WW518
      have Y521 := (Y512).other WW518 (Or.inl (Ne.symm Y269))
      have Y522 := (F509).other WW518 (Ne.symm Y270)
      have Y523 := (Y513).other WW518 Y272
      have Y524 : Ary Z h517 x258 .int [(Int32.ofNat (ρ4_ 0)), (Int32.ofNat (ρ4_ 1)), (Int32.ofNat (ρ4_ 2)), (Int32.ofNat (ρ4_ 3)), (Int32.ofNat (ρ4_ 4))] := F519
      exact k177 _ _ _ (w516.mono (by decide) (by decide)) Y524 Y523
    · show Go κ _ T255 81 #[.val (.int p0), .val (.int p1), .val (.int p2), .val (.int p3), .val (.int p4), .val (.ref x141), .val (.ref x158), .val (.ref x258), .val (.int (Int32.ofNat 2)), .unset] []
      refine blk (pc' := 93) (Ls' := #[.val (.int p0), .val (.int p1), .val (.int p2), .val (.int p3), .val (.int p4), .val (.ref x141), .val (.ref x158), .val (.ref x258), .val (.int (Int32.ofNat 2)), .unset]) (st' := [(.int ((Int32.ofNat 2) % (5 : Int32))), (.ref x141), (.int ((Int32.ofNat 2) % (5 : Int32))), (.ref x258)]) [oAload w256.ok (dc.g 53 rfl), oIload w256.ok (dc.g 54 rfl), oIconst w256.ok (dc.g 55 rfl), oIrem w256.ok (dc.g 56 rfl), oAload w256.ok (dc.g 57 rfl), oIload w256.ok (dc.g 58 rfl), oIconst w256.ok (dc.g 59 rfl), oIrem w256.ok (dc.g 60 rfl)] rfl ?_
      rw [show ((Int32.ofNat 2) % (5 : Int32)) = Int32.ofNat 2 from by decide]
      show Go κ _ T255 93 #[.val (.int p0), .val (.int p1), .val (.int p2), .val (.int p3), .val (.int p4), .val (.ref x141), .val (.ref x158), .val (.ref x258), .val (.int (Int32.ofNat 2)), .unset] [(.int (Int32.ofNat 2)), (.ref x141), (.int (Int32.ofNat 2)), (.ref x258)]
      show Go κ _ T255 93 #[.val (.int p0), .val (.int p1), .val (.int p2), .val (.int p3), .val (.int p4), .val (.ref x141), .val (.ref x158), .val (.ref x258), .val (.int (Int32.ofNat 2)), .unset] [(.int (Int32.ofNat 2)), (.ref x141), (.int (Int32.ofNat 2)), (.ref x258)]
      refine w256.callV (wd hw 46 rfl) (wd hw 39 rfl) (notFace (wd hw 41 rfl)) (wd hw 41 rfl) (wd hw 40 rfl) (by decide) (a := x141) Y265 (argsL := [(.int (Int32.ofNat 2))]) (Wd := 2) (Ctr.pays (len := 3) (Wd := 2) (c_root l Z a0 hw hEL (x := 2) Y265 Y266 Y267 RS (by decide) (by decide) hA0) w256 (wd hw 42 rfl) (wd hw 2 rfl) hEL (by decide) (by decide) sfNil) pd1 rfl (st := [(.int (Int32.ofNat 2)), (.ref x258)]) rfl rfl (Nat.le_of_eq rfl) (dc.g 61 rfl) (by decide) (by decide) ?_
      intro vm525 T526 h527 v528 w529 C530 Q531
      obtain ⟨qs532, rfl, K533, F534, R535⟩ := Q531
      show Go κ _ T526 96 #[.val (.int p0), .val (.int p1), .val (.int p2), .val (.int p3), .val (.int p4), .val (.ref x141), .val (.ref x158), .val (.ref x258), .val (.int (Int32.ofNat 2)), .unset] [(.int (Int32.ofNat (ρ4_ 2))), (.int (Int32.ofNat 2)), (.ref x258)]
      have Y536 := (Y265).keep K533
      have Y537 := (Y266).keep K533 (ninS hdA nin0)
      have Y538 := (Y268).keep K533 (ninS Y168 nin0)
      have Y539 := (Y273).keep K533 (ninS Y270 nin0)
      refine w529.ist Y539 (i := 2) rfl (by simp) Y274 (dc.g 62 rfl) ?_
      intro T540 h542 w541 W543 F544
      show Go κ _ T540 97 #[.val (.int p0), .val (.int p1), .val (.int p2), .val (.int p3), .val (.int p4), .val (.ref x141), .val (.ref x158), .val (.ref x258), .val (.int (Int32.ofNat 2)), .unset] []
      obtain ⟨slW543, vvW543, WW543⟩ := W543
      have Y545 := (Y536).wr WW543
      have Y546 := (Y537).other WW543 (Or.inl (Ne.symm Y269))
      have Y547 := (F534).other WW543 (Ne.symm Y270)
      have Y548 := (Y538).other WW543 Y272
      have Y549 : Ary Z h542 x258 .int [0, 0, (Int32.ofNat (ρ4_ 2)), 0, 0] := F544
      refine blk (pc' := 113) (Ls' := #[.val (.int p0), .val (.int p1), .val (.int p2), .val (.int p3), .val (.int p4), .val (.ref x141), .val (.ref x158), .val (.ref x258), .val (.int (Int32.ofNat 2)), .unset]) (st' := [(.int (((Int32.ofNat 2) + (1 : Int32)) % (5 : Int32))), (.ref x141), (.int (((Int32.ofNat 2) + (1 : Int32)) % (5 : Int32))), (.ref x258)]) [oAload w541.ok (dc.g 63 rfl), oIload w541.ok (dc.g 64 rfl), oIconst w541.ok (dc.g 65 rfl), oIadd w541.ok (dc.g 66 rfl), oIconst w541.ok (dc.g 67 rfl), oIrem w541.ok (dc.g 68 rfl), oAload w541.ok (dc.g 69 rfl), oIload w541.ok (dc.g 70 rfl), oIconst w541.ok (dc.g 71 rfl), oIadd w541.ok (dc.g 72 rfl), oIconst w541.ok (dc.g 73 rfl), oIrem w541.ok (dc.g 74 rfl)] rfl ?_
      rw [show (((Int32.ofNat 2) + (1 : Int32)) % (5 : Int32)) = Int32.ofNat 3 from by decide]
      show Go κ _ T540 113 #[.val (.int p0), .val (.int p1), .val (.int p2), .val (.int p3), .val (.int p4), .val (.ref x141), .val (.ref x158), .val (.ref x258), .val (.int (Int32.ofNat 2)), .unset] [(.int (Int32.ofNat 3)), (.ref x141), (.int (Int32.ofNat 3)), (.ref x258)]
      show Go κ _ T540 113 #[.val (.int p0), .val (.int p1), .val (.int p2), .val (.int p3), .val (.int p4), .val (.ref x141), .val (.ref x158), .val (.ref x258), .val (.int (Int32.ofNat 2)), .unset] [(.int (Int32.ofNat 3)), (.ref x141), (.int (Int32.ofNat 3)), (.ref x258)]
      refine w541.callV (wd hw 46 rfl) (wd hw 39 rfl) (notFace (wd hw 41 rfl)) (wd hw 41 rfl) (wd hw 40 rfl) (by decide) (a := x141) Y545 (argsL := [(.int (Int32.ofNat 3))]) (Wd := 2) (Ctr.pays (len := 3) (Wd := 2) (c_root l Z a0 hw hEL (x := 3) Y545 Y546 Y547 R535 (by decide) (by decide) hA0) w541 (wd hw 42 rfl) (wd hw 2 rfl) hEL (by decide) (by decide) sfNil) pd1 rfl (st := [(.int (Int32.ofNat 3)), (.ref x258)]) rfl rfl (Nat.le_of_eq rfl) (dc.g 75 rfl) (by decide) (by decide) ?_
      intro vm550 T551 h552 v553 w554 C555 Q556
      obtain ⟨qs557, rfl, K558, F559, R560⟩ := Q556
      show Go κ _ T551 116 #[.val (.int p0), .val (.int p1), .val (.int p2), .val (.int p3), .val (.int p4), .val (.ref x141), .val (.ref x158), .val (.ref x258), .val (.int (Int32.ofNat 2)), .unset] [(.int (Int32.ofNat (ρ4_ 3))), (.int (Int32.ofNat 3)), (.ref x258)]
      have Y561 := (Y545).keep K558
      have Y562 := (Y546).keep K558 (ninS hdA nin0)
      have Y563 := (Y548).keep K558 (ninS Y168 nin0)
      have Y564 := (Y549).keep K558 (ninS Y270 nin0)
      refine w554.ist Y564 (i := 3) rfl (by simp) Y274 (dc.g 76 rfl) ?_
      intro T565 h567 w566 W568 F569
      show Go κ _ T565 117 #[.val (.int p0), .val (.int p1), .val (.int p2), .val (.int p3), .val (.int p4), .val (.ref x141), .val (.ref x158), .val (.ref x258), .val (.int (Int32.ofNat 2)), .unset] []
      obtain ⟨slW568, vvW568, WW568⟩ := W568
      have Y570 := (Y561).wr WW568
      have Y571 := (Y562).other WW568 (Or.inl (Ne.symm Y269))
      have Y572 := (F559).other WW568 (Ne.symm Y270)
      have Y573 := (Y563).other WW568 Y272
      have Y574 : Ary Z h567 x258 .int [0, 0, (Int32.ofNat (ρ4_ 2)), (Int32.ofNat (ρ4_ 3)), 0] := F569
      refine blk (pc' := 133) (Ls' := #[.val (.int p0), .val (.int p1), .val (.int p2), .val (.int p3), .val (.int p4), .val (.ref x141), .val (.ref x158), .val (.ref x258), .val (.int (Int32.ofNat 2)), .unset]) (st' := [(.int (((Int32.ofNat 2) + (2 : Int32)) % (5 : Int32))), (.ref x141), (.int (((Int32.ofNat 2) + (2 : Int32)) % (5 : Int32))), (.ref x258)]) [oAload w566.ok (dc.g 77 rfl), oIload w566.ok (dc.g 78 rfl), oIconst w566.ok (dc.g 79 rfl), oIadd w566.ok (dc.g 80 rfl), oIconst w566.ok (dc.g 81 rfl), oIrem w566.ok (dc.g 82 rfl), oAload w566.ok (dc.g 83 rfl), oIload w566.ok (dc.g 84 rfl), oIconst w566.ok (dc.g 85 rfl), oIadd w566.ok (dc.g 86 rfl), oIconst w566.ok (dc.g 87 rfl), oIrem w566.ok (dc.g 88 rfl)] rfl ?_
      rw [show (((Int32.ofNat 2) + (2 : Int32)) % (5 : Int32)) = Int32.ofNat 4 from by decide]
      show Go κ _ T565 133 #[.val (.int p0), .val (.int p1), .val (.int p2), .val (.int p3), .val (.int p4), .val (.ref x141), .val (.ref x158), .val (.ref x258), .val (.int (Int32.ofNat 2)), .unset] [(.int (Int32.ofNat 4)), (.ref x141), (.int (Int32.ofNat 4)), (.ref x258)]
      show Go κ _ T565 133 #[.val (.int p0), .val (.int p1), .val (.int p2), .val (.int p3), .val (.int p4), .val (.ref x141), .val (.ref x158), .val (.ref x258), .val (.int (Int32.ofNat 2)), .unset] [(.int (Int32.ofNat 4)), (.ref x141), (.int (Int32.ofNat 4)), (.ref x258)]
      refine w566.callV (wd hw 46 rfl) (wd hw 39 rfl) (notFace (wd hw 41 rfl)) (wd hw 41 rfl) (wd hw 40 rfl) (by decide) (a := x141) Y570 (argsL := [(.int (Int32.ofNat 4))]) (Wd := 2) (Ctr.pays (len := 3) (Wd := 2) (c_root l Z a0 hw hEL (x := 4) Y570 Y571 Y572 R560 (by decide) (by decide) hA0) w566 (wd hw 42 rfl) (wd hw 2 rfl) hEL (by decide) (by decide) sfNil) pd1 rfl (st := [(.int (Int32.ofNat 4)), (.ref x258)]) rfl rfl (Nat.le_of_eq rfl) (dc.g 89 rfl) (by decide) (by decide) ?_
      intro vm575 T576 h577 v578 w579 C580 Q581
      obtain ⟨qs582, rfl, K583, F584, R585⟩ := Q581
      show Go κ _ T576 136 #[.val (.int p0), .val (.int p1), .val (.int p2), .val (.int p3), .val (.int p4), .val (.ref x141), .val (.ref x158), .val (.ref x258), .val (.int (Int32.ofNat 2)), .unset] [(.int (Int32.ofNat (ρ4_ 4))), (.int (Int32.ofNat 4)), (.ref x258)]
      have Y586 := (Y570).keep K583
      have Y587 := (Y571).keep K583 (ninS hdA nin0)
      have Y588 := (Y573).keep K583 (ninS Y168 nin0)
      have Y589 := (Y574).keep K583 (ninS Y270 nin0)
      refine w579.ist Y589 (i := 4) rfl (by simp) Y274 (dc.g 90 rfl) ?_
      intro T590 h592 w591 W593 F594
      show Go κ _ T590 137 #[.val (.int p0), .val (.int p1), .val (.int p2), .val (.int p3), .val (.int p4), .val (.ref x141), .val (.ref x158), .val (.ref x258), .val (.int (Int32.ofNat 2)), .unset] []
      obtain ⟨slW593, vvW593, WW593⟩ := W593
      have Y595 := (Y586).wr WW593
      have Y596 := (Y587).other WW593 (Or.inl (Ne.symm Y269))
      have Y597 := (F584).other WW593 (Ne.symm Y270)
      have Y598 := (Y588).other WW593 Y272
      have Y599 : Ary Z h592 x258 .int [0, 0, (Int32.ofNat (ρ4_ 2)), (Int32.ofNat (ρ4_ 3)), (Int32.ofNat (ρ4_ 4))] := F594
      refine blk (pc' := 153) (Ls' := #[.val (.int p0), .val (.int p1), .val (.int p2), .val (.int p3), .val (.int p4), .val (.ref x141), .val (.ref x158), .val (.ref x258), .val (.int (Int32.ofNat 2)), .unset]) (st' := [(.int (((Int32.ofNat 2) + (3 : Int32)) % (5 : Int32))), (.ref x141), (.int (((Int32.ofNat 2) + (3 : Int32)) % (5 : Int32))), (.ref x258)]) [oAload w591.ok (dc.g 91 rfl), oIload w591.ok (dc.g 92 rfl), oIconst w591.ok (dc.g 93 rfl), oIadd w591.ok (dc.g 94 rfl), oIconst w591.ok (dc.g 95 rfl), oIrem w591.ok (dc.g 96 rfl), oAload w591.ok (dc.g 97 rfl), oIload w591.ok (dc.g 98 rfl), oIconst w591.ok (dc.g 99 rfl), oIadd w591.ok (dc.g 100 rfl), oIconst w591.ok (dc.g 101 rfl), oIrem w591.ok (dc.g 102 rfl)] rfl ?_
      rw [show (((Int32.ofNat 2) + (3 : Int32)) % (5 : Int32)) = Int32.ofNat 0 from by decide]
      show Go κ _ T590 153 #[.val (.int p0), .val (.int p1), .val (.int p2), .val (.int p3), .val (.int p4), .val (.ref x141), .val (.ref x158), .val (.ref x258), .val (.int (Int32.ofNat 2)), .unset] [(.int (Int32.ofNat 0)), (.ref x141), (.int (Int32.ofNat 0)), (.ref x258)]
      show Go κ _ T590 153 #[.val (.int p0), .val (.int p1), .val (.int p2), .val (.int p3), .val (.int p4), .val (.ref x141), .val (.ref x158), .val (.ref x258), .val (.int (Int32.ofNat 2)), .unset] [(.int (Int32.ofNat 0)), (.ref x141), (.int (Int32.ofNat 0)), (.ref x258)]
      refine w591.callV (wd hw 46 rfl) (wd hw 39 rfl) (notFace (wd hw 41 rfl)) (wd hw 41 rfl) (wd hw 40 rfl) (by decide) (a := x141) Y595 (argsL := [(.int (Int32.ofNat 0))]) (Wd := 2) (Ctr.pays (len := 3) (Wd := 2) (c_root l Z a0 hw hEL (x := 0) Y595 Y596 Y597 R585 (by decide) (by decide) hA0) w591 (wd hw 42 rfl) (wd hw 2 rfl) hEL (by decide) (by decide) sfNil) pd1 rfl (st := [(.int (Int32.ofNat 0)), (.ref x258)]) rfl rfl (Nat.le_of_eq rfl) (dc.g 103 rfl) (by decide) (by decide) ?_
      intro vm600 T601 h602 v603 w604 C605 Q606
      obtain ⟨qs607, rfl, K608, F609, R610⟩ := Q606
      show Go κ _ T601 156 #[.val (.int p0), .val (.int p1), .val (.int p2), .val (.int p3), .val (.int p4), .val (.ref x141), .val (.ref x158), .val (.ref x258), .val (.int (Int32.ofNat 2)), .unset] [(.int (Int32.ofNat (ρ4_ 0))), (.int (Int32.ofNat 0)), (.ref x258)]
      have Y611 := (Y595).keep K608
      have Y612 := (Y596).keep K608 (ninS hdA nin0)
      have Y613 := (Y598).keep K608 (ninS Y168 nin0)
      have Y614 := (Y599).keep K608 (ninS Y270 nin0)
      refine w604.ist Y614 (i := 0) rfl (by simp) Y274 (dc.g 104 rfl) ?_
      intro T615 h617 w616 W618 F619
      show Go κ _ T615 157 #[.val (.int p0), .val (.int p1), .val (.int p2), .val (.int p3), .val (.int p4), .val (.ref x141), .val (.ref x158), .val (.ref x258), .val (.int (Int32.ofNat 2)), .unset] []
      obtain ⟨slW618, vvW618, WW618⟩ := W618
      have Y620 := (Y611).wr WW618
      have Y621 := (Y612).other WW618 (Or.inl (Ne.symm Y269))
      have Y622 := (F609).other WW618 (Ne.symm Y270)
      have Y623 := (Y613).other WW618 Y272
      have Y624 : Ary Z h617 x258 .int [(Int32.ofNat (ρ4_ 0)), 0, (Int32.ofNat (ρ4_ 2)), (Int32.ofNat (ρ4_ 3)), (Int32.ofNat (ρ4_ 4))] := F619
      refine blk (pc' := 173) (Ls' := #[.val (.int p0), .val (.int p1), .val (.int p2), .val (.int p3), .val (.int p4), .val (.ref x141), .val (.ref x158), .val (.ref x258), .val (.int (Int32.ofNat 2)), .unset]) (st' := [(.int (((Int32.ofNat 2) + (4 : Int32)) % (5 : Int32))), (.ref x141), (.int (((Int32.ofNat 2) + (4 : Int32)) % (5 : Int32))), (.ref x258)]) [oAload w616.ok (dc.g 105 rfl), oIload w616.ok (dc.g 106 rfl), oIconst w616.ok (dc.g 107 rfl), oIadd w616.ok (dc.g 108 rfl), oIconst w616.ok (dc.g 109 rfl), oIrem w616.ok (dc.g 110 rfl), oAload w616.ok (dc.g 111 rfl), oIload w616.ok (dc.g 112 rfl), oIconst w616.ok (dc.g 113 rfl), oIadd w616.ok (dc.g 114 rfl), oIconst w616.ok (dc.g 115 rfl), oIrem w616.ok (dc.g 116 rfl)] rfl ?_
      rw [show (((Int32.ofNat 2) + (4 : Int32)) % (5 : Int32)) = Int32.ofNat 1 from by decide]
      show Go κ _ T615 173 #[.val (.int p0), .val (.int p1), .val (.int p2), .val (.int p3), .val (.int p4), .val (.ref x141), .val (.ref x158), .val (.ref x258), .val (.int (Int32.ofNat 2)), .unset] [(.int (Int32.ofNat 1)), (.ref x141), (.int (Int32.ofNat 1)), (.ref x258)]
      show Go κ _ T615 173 #[.val (.int p0), .val (.int p1), .val (.int p2), .val (.int p3), .val (.int p4), .val (.ref x141), .val (.ref x158), .val (.ref x258), .val (.int (Int32.ofNat 2)), .unset] [(.int (Int32.ofNat 1)), (.ref x141), (.int (Int32.ofNat 1)), (.ref x258)]
      refine w616.callV (wd hw 46 rfl) (wd hw 39 rfl) (notFace (wd hw 41 rfl)) (wd hw 41 rfl) (wd hw 40 rfl) (by decide) (a := x141) Y620 (argsL := [(.int (Int32.ofNat 1))]) (Wd := 2) (Ctr.pays (len := 3) (Wd := 2) (c_root l Z a0 hw hEL (x := 1) Y620 Y621 Y622 R610 (by decide) (by decide) hA0) w616 (wd hw 42 rfl) (wd hw 2 rfl) hEL (by decide) (by decide) sfNil) pd1 rfl (st := [(.int (Int32.ofNat 1)), (.ref x258)]) rfl rfl (Nat.le_of_eq rfl) (dc.g 117 rfl) (by decide) (by decide) ?_
      intro vm625 T626 h627 v628 w629 C630 Q631
      obtain ⟨qs632, rfl, K633, F634, R635⟩ := Q631
      show Go κ _ T626 176 #[.val (.int p0), .val (.int p1), .val (.int p2), .val (.int p3), .val (.int p4), .val (.ref x141), .val (.ref x158), .val (.ref x258), .val (.int (Int32.ofNat 2)), .unset] [(.int (Int32.ofNat (ρ4_ 1))), (.int (Int32.ofNat 1)), (.ref x258)]
      have Y636 := (Y620).keep K633
      have Y637 := (Y621).keep K633 (ninS hdA nin0)
      have Y638 := (Y623).keep K633 (ninS Y168 nin0)
      have Y639 := (Y624).keep K633 (ninS Y270 nin0)
      refine w629.ist Y639 (i := 1) rfl (by simp) Y274 (dc.g 118 rfl) ?_
      intro T640 h642 w641 W643 F644
      show Go κ _ T640 177 #[.val (.int p0), .val (.int p1), .val (.int p2), .val (.int p3), .val (.int p4), .val (.ref x141), .val (.ref x158), .val (.ref x258), .val (.int (Int32.ofNat 2)), .unset] []
      obtain ⟨slW643, vvW643, WW643⟩ := W643
      have Y645 := (Y636).wr WW643
      have Y646 := (Y637).other WW643 (Or.inl (Ne.symm Y269))
      have Y647 := (F634).other WW643 (Ne.symm Y270)
      have Y648 := (Y638).other WW643 Y272
      have Y649 : Ary Z h642 x258 .int [(Int32.ofNat (ρ4_ 0)), (Int32.ofNat (ρ4_ 1)), (Int32.ofNat (ρ4_ 2)), (Int32.ofNat (ρ4_ 3)), (Int32.ofNat (ρ4_ 4))] := F644
      exact k177 _ _ _ (w641.mono (by decide) (by decide)) Y649 Y648
    · show Go κ _ T255 81 #[.val (.int p0), .val (.int p1), .val (.int p2), .val (.int p3), .val (.int p4), .val (.ref x141), .val (.ref x158), .val (.ref x258), .val (.int (Int32.ofNat 3)), .unset] []
      refine blk (pc' := 93) (Ls' := #[.val (.int p0), .val (.int p1), .val (.int p2), .val (.int p3), .val (.int p4), .val (.ref x141), .val (.ref x158), .val (.ref x258), .val (.int (Int32.ofNat 3)), .unset]) (st' := [(.int ((Int32.ofNat 3) % (5 : Int32))), (.ref x141), (.int ((Int32.ofNat 3) % (5 : Int32))), (.ref x258)]) [oAload w256.ok (dc.g 53 rfl), oIload w256.ok (dc.g 54 rfl), oIconst w256.ok (dc.g 55 rfl), oIrem w256.ok (dc.g 56 rfl), oAload w256.ok (dc.g 57 rfl), oIload w256.ok (dc.g 58 rfl), oIconst w256.ok (dc.g 59 rfl), oIrem w256.ok (dc.g 60 rfl)] rfl ?_
      rw [show ((Int32.ofNat 3) % (5 : Int32)) = Int32.ofNat 3 from by decide]
      show Go κ _ T255 93 #[.val (.int p0), .val (.int p1), .val (.int p2), .val (.int p3), .val (.int p4), .val (.ref x141), .val (.ref x158), .val (.ref x258), .val (.int (Int32.ofNat 3)), .unset] [(.int (Int32.ofNat 3)), (.ref x141), (.int (Int32.ofNat 3)), (.ref x258)]
      show Go κ _ T255 93 #[.val (.int p0), .val (.int p1), .val (.int p2), .val (.int p3), .val (.int p4), .val (.ref x141), .val (.ref x158), .val (.ref x258), .val (.int (Int32.ofNat 3)), .unset] [(.int (Int32.ofNat 3)), (.ref x141), (.int (Int32.ofNat 3)), (.ref x258)]
      refine w256.callV (wd hw 46 rfl) (wd hw 39 rfl) (notFace (wd hw 41 rfl)) (wd hw 41 rfl) (wd hw 40 rfl) (by decide) (a := x141) Y265 (argsL := [(.int (Int32.ofNat 3))]) (Wd := 2) (Ctr.pays (len := 3) (Wd := 2) (c_root l Z a0 hw hEL (x := 3) Y265 Y266 Y267 RS (by decide) (by decide) hA0) w256 (wd hw 42 rfl) (wd hw 2 rfl) hEL (by decide) (by decide) sfNil) pd1 rfl (st := [(.int (Int32.ofNat 3)), (.ref x258)]) rfl rfl (Nat.le_of_eq rfl) (dc.g 61 rfl) (by decide) (by decide) ?_
      intro vm650 T651 h652 v653 w654 C655 Q656
      obtain ⟨qs657, rfl, K658, F659, R660⟩ := Q656
      show Go κ _ T651 96 #[.val (.int p0), .val (.int p1), .val (.int p2), .val (.int p3), .val (.int p4), .val (.ref x141), .val (.ref x158), .val (.ref x258), .val (.int (Int32.ofNat 3)), .unset] [(.int (Int32.ofNat (ρ4_ 3))), (.int (Int32.ofNat 3)), (.ref x258)]
      have Y661 := (Y265).keep K658
      have Y662 := (Y266).keep K658 (ninS hdA nin0)
      have Y663 := (Y268).keep K658 (ninS Y168 nin0)
      have Y664 := (Y273).keep K658 (ninS Y270 nin0)
      refine w654.ist Y664 (i := 3) rfl (by simp) Y274 (dc.g 62 rfl) ?_
      intro T665 h667 w666 W668 F669
      show Go κ _ T665 97 #[.val (.int p0), .val (.int p1), .val (.int p2), .val (.int p3), .val (.int p4), .val (.ref x141), .val (.ref x158), .val (.ref x258), .val (.int (Int32.ofNat 3)), .unset] []
      obtain ⟨slW668, vvW668, WW668⟩ := W668
      have Y670 := (Y661).wr WW668
      have Y671 := (Y662).other WW668 (Or.inl (Ne.symm Y269))
      have Y672 := (F659).other WW668 (Ne.symm Y270)
      have Y673 := (Y663).other WW668 Y272
      have Y674 : Ary Z h667 x258 .int [0, 0, 0, (Int32.ofNat (ρ4_ 3)), 0] := F669
      refine blk (pc' := 113) (Ls' := #[.val (.int p0), .val (.int p1), .val (.int p2), .val (.int p3), .val (.int p4), .val (.ref x141), .val (.ref x158), .val (.ref x258), .val (.int (Int32.ofNat 3)), .unset]) (st' := [(.int (((Int32.ofNat 3) + (1 : Int32)) % (5 : Int32))), (.ref x141), (.int (((Int32.ofNat 3) + (1 : Int32)) % (5 : Int32))), (.ref x258)]) [oAload w666.ok (dc.g 63 rfl), oIload w666.ok (dc.g 64 rfl), oIconst w666.ok (dc.g 65 rfl), oIadd w666.ok (dc.g 66 rfl), oIconst w666.ok (dc.g 67 rfl), oIrem w666.ok (dc.g 68 rfl), oAload w666.ok (dc.g 69 rfl), oIload w666.ok (dc.g 70 rfl), oIconst w666.ok (dc.g 71 rfl), oIadd w666.ok (dc.g 72 rfl), oIconst w666.ok (dc.g 73 rfl), oIrem w666.ok (dc.g 74 rfl)] rfl ?_
      rw [show (((Int32.ofNat 3) + (1 : Int32)) % (5 : Int32)) = Int32.ofNat 4 from by decide]
      show Go κ _ T665 113 #[.val (.int p0), .val (.int p1), .val (.int p2), .val (.int p3), .val (.int p4), .val (.ref x141), .val (.ref x158), .val (.ref x258), .val (.int (Int32.ofNat 3)), .unset] [(.int (Int32.ofNat 4)), (.ref x141), (.int (Int32.ofNat 4)), (.ref x258)]
      show Go κ _ T665 113 #[.val (.int p0), .val (.int p1), .val (.int p2), .val (.int p3), .val (.int p4), .val (.ref x141), .val (.ref x158), .val (.ref x258), .val (.int (Int32.ofNat 3)), .unset] [(.int (Int32.ofNat 4)), (.ref x141), (.int (Int32.ofNat 4)), (.ref x258)]
      refine w666.callV (wd hw 46 rfl) (wd hw 39 rfl) (notFace (wd hw 41 rfl)) (wd hw 41 rfl) (wd hw 40 rfl) (by decide) (a := x141) Y670 (argsL := [(.int (Int32.ofNat 4))]) (Wd := 2) (Ctr.pays (len := 3) (Wd := 2) (c_root l Z a0 hw hEL (x := 4) Y670 Y671 Y672 R660 (by decide) (by decide) hA0) w666 (wd hw 42 rfl) (wd hw 2 rfl) hEL (by decide) (by decide) sfNil) pd1 rfl (st := [(.int (Int32.ofNat 4)), (.ref x258)]) rfl rfl (Nat.le_of_eq rfl) (dc.g 75 rfl) (by decide) (by decide) ?_
      intro vm675 T676 h677 v678 w679 C680 Q681
      obtain ⟨qs682, rfl, K683, F684, R685⟩ := Q681
      show Go κ _ T676 116 #[.val (.int p0), .val (.int p1), .val (.int p2), .val (.int p3), .val (.int p4), .val (.ref x141), .val (.ref x158), .val (.ref x258), .val (.int (Int32.ofNat 3)), .unset] [(.int (Int32.ofNat (ρ4_ 4))), (.int (Int32.ofNat 4)), (.ref x258)]
      have Y686 := (Y670).keep K683
      have Y687 := (Y671).keep K683 (ninS hdA nin0)
      have Y688 := (Y673).keep K683 (ninS Y168 nin0)
      have Y689 := (Y674).keep K683 (ninS Y270 nin0)
      refine w679.ist Y689 (i := 4) rfl (by simp) Y274 (dc.g 76 rfl) ?_
      intro T690 h692 w691 W693 F694
      show Go κ _ T690 117 #[.val (.int p0), .val (.int p1), .val (.int p2), .val (.int p3), .val (.int p4), .val (.ref x141), .val (.ref x158), .val (.ref x258), .val (.int (Int32.ofNat 3)), .unset] []
      obtain ⟨slW693, vvW693, WW693⟩ := W693
      have Y695 := (Y686).wr WW693
      have Y696 := (Y687).other WW693 (Or.inl (Ne.symm Y269))
      have Y697 := (F684).other WW693 (Ne.symm Y270)
      have Y698 := (Y688).other WW693 Y272
      have Y699 : Ary Z h692 x258 .int [0, 0, 0, (Int32.ofNat (ρ4_ 3)), (Int32.ofNat (ρ4_ 4))] := F694
      refine blk (pc' := 133) (Ls' := #[.val (.int p0), .val (.int p1), .val (.int p2), .val (.int p3), .val (.int p4), .val (.ref x141), .val (.ref x158), .val (.ref x258), .val (.int (Int32.ofNat 3)), .unset]) (st' := [(.int (((Int32.ofNat 3) + (2 : Int32)) % (5 : Int32))), (.ref x141), (.int (((Int32.ofNat 3) + (2 : Int32)) % (5 : Int32))), (.ref x258)]) [oAload w691.ok (dc.g 77 rfl), oIload w691.ok (dc.g 78 rfl), oIconst w691.ok (dc.g 79 rfl), oIadd w691.ok (dc.g 80 rfl), oIconst w691.ok (dc.g 81 rfl), oIrem w691.ok (dc.g 82 rfl), oAload w691.ok (dc.g 83 rfl), oIload w691.ok (dc.g 84 rfl), oIconst w691.ok (dc.g 85 rfl), oIadd w691.ok (dc.g 86 rfl), oIconst w691.ok (dc.g 87 rfl), oIrem w691.ok (dc.g 88 rfl)] rfl ?_
      rw [show (((Int32.ofNat 3) + (2 : Int32)) % (5 : Int32)) = Int32.ofNat 0 from by decide]
      show Go κ _ T690 133 #[.val (.int p0), .val (.int p1), .val (.int p2), .val (.int p3), .val (.int p4), .val (.ref x141), .val (.ref x158), .val (.ref x258), .val (.int (Int32.ofNat 3)), .unset] [(.int (Int32.ofNat 0)), (.ref x141), (.int (Int32.ofNat 0)), (.ref x258)]
      show Go κ _ T690 133 #[.val (.int p0), .val (.int p1), .val (.int p2), .val (.int p3), .val (.int p4), .val (.ref x141), .val (.ref x158), .val (.ref x258), .val (.int (Int32.ofNat 3)), .unset] [(.int (Int32.ofNat 0)), (.ref x141), (.int (Int32.ofNat 0)), (.ref x258)]
      refine w691.callV (wd hw 46 rfl) (wd hw 39 rfl) (notFace (wd hw 41 rfl)) (wd hw 41 rfl) (wd hw 40 rfl) (by decide) (a := x141) Y695 (argsL := [(.int (Int32.ofNat 0))]) (Wd := 2) (Ctr.pays (len := 3) (Wd := 2) (c_root l Z a0 hw hEL (x := 0) Y695 Y696 Y697 R685 (by decide) (by decide) hA0) w691 (wd hw 42 rfl) (wd hw 2 rfl) hEL (by decide) (by decide) sfNil) pd1 rfl (st := [(.int (Int32.ofNat 0)), (.ref x258)]) rfl rfl (Nat.le_of_eq rfl) (dc.g 89 rfl) (by decide) (by decide) ?_
      intro vm700 T701 h702 v703 w704 C705 Q706
      obtain ⟨qs707, rfl, K708, F709, R710⟩ := Q706
      show Go κ _ T701 136 #[.val (.int p0), .val (.int p1), .val (.int p2), .val (.int p3), .val (.int p4), .val (.ref x141), .val (.ref x158), .val (.ref x258), .val (.int (Int32.ofNat 3)), .unset] [(.int (Int32.ofNat (ρ4_ 0))), (.int (Int32.ofNat 0)), (.ref x258)]
      have Y711 := (Y695).keep K708
      have Y712 := (Y696).keep K708 (ninS hdA nin0)
      have Y713 := (Y698).keep K708 (ninS Y168 nin0)
      have Y714 := (Y699).keep K708 (ninS Y270 nin0)
      refine w704.ist Y714 (i := 0) rfl (by simp) Y274 (dc.g 90 rfl) ?_
      intro T715 h717 w716 W718 F719
      show Go κ _ T715 137 #[.val (.int p0), .val (.int p1), .val (.int p2), .val (.int p3), .val (.int p4), .val (.ref x141), .val (.ref x158), .val (.ref x258), .val (.int (Int32.ofNat 3)), .unset] []
      obtain ⟨slW718, vvW718, WW718⟩ := W718
      have Y720 := (Y711).wr WW718
      have Y721 := (Y712).other WW718 (Or.inl (Ne.symm Y269))
      have Y722 := (F709).other WW718 (Ne.symm Y270)
      have Y723 := (Y713).other WW718 Y272
      have Y724 : Ary Z h717 x258 .int [(Int32.ofNat (ρ4_ 0)), 0, 0, (Int32.ofNat (ρ4_ 3)), (Int32.ofNat (ρ4_ 4))] := F719
      refine blk (pc' := 153) (Ls' := #[.val (.int p0), .val (.int p1), .val (.int p2), .val (.int p3), .val (.int p4), .val (.ref x141), .val (.ref x158), .val (.ref x258), .val (.int (Int32.ofNat 3)), .unset]) (st' := [(.int (((Int32.ofNat 3) + (3 : Int32)) % (5 : Int32))), (.ref x141), (.int (((Int32.ofNat 3) + (3 : Int32)) % (5 : Int32))), (.ref x258)]) [oAload w716.ok (dc.g 91 rfl), oIload w716.ok (dc.g 92 rfl), oIconst w716.ok (dc.g 93 rfl), oIadd w716.ok (dc.g 94 rfl), oIconst w716.ok (dc.g 95 rfl), oIrem w716.ok (dc.g 96 rfl), oAload w716.ok (dc.g 97 rfl), oIload w716.ok (dc.g 98 rfl), oIconst w716.ok (dc.g 99 rfl), oIadd w716.ok (dc.g 100 rfl), oIconst w716.ok (dc.g 101 rfl), oIrem w716.ok (dc.g 102 rfl)] rfl ?_
      rw [show (((Int32.ofNat 3) + (3 : Int32)) % (5 : Int32)) = Int32.ofNat 1 from by decide]
      show Go κ _ T715 153 #[.val (.int p0), .val (.int p1), .val (.int p2), .val (.int p3), .val (.int p4), .val (.ref x141), .val (.ref x158), .val (.ref x258), .val (.int (Int32.ofNat 3)), .unset] [(.int (Int32.ofNat 1)), (.ref x141), (.int (Int32.ofNat 1)), (.ref x258)]
      show Go κ _ T715 153 #[.val (.int p0), .val (.int p1), .val (.int p2), .val (.int p3), .val (.int p4), .val (.ref x141), .val (.ref x158), .val (.ref x258), .val (.int (Int32.ofNat 3)), .unset] [(.int (Int32.ofNat 1)), (.ref x141), (.int (Int32.ofNat 1)), (.ref x258)]
      refine w716.callV (wd hw 46 rfl) (wd hw 39 rfl) (notFace (wd hw 41 rfl)) (wd hw 41 rfl) (wd hw 40 rfl) (by decide) (a := x141) Y720 (argsL := [(.int (Int32.ofNat 1))]) (Wd := 2) (Ctr.pays (len := 3) (Wd := 2) (c_root l Z a0 hw hEL (x := 1) Y720 Y721 Y722 R710 (by decide) (by decide) hA0) w716 (wd hw 42 rfl) (wd hw 2 rfl) hEL (by decide) (by decide) sfNil) pd1 rfl (st := [(.int (Int32.ofNat 1)), (.ref x258)]) rfl rfl (Nat.le_of_eq rfl) (dc.g 103 rfl) (by decide) (by decide) ?_
      intro vm725 T726 h727 v728 w729 C730 Q731
      obtain ⟨qs732, rfl, K733, F734, R735⟩ := Q731
      show Go κ _ T726 156 #[.val (.int p0), .val (.int p1), .val (.int p2), .val (.int p3), .val (.int p4), .val (.ref x141), .val (.ref x158), .val (.ref x258), .val (.int (Int32.ofNat 3)), .unset] [(.int (Int32.ofNat (ρ4_ 1))), (.int (Int32.ofNat 1)), (.ref x258)]
      have Y736 := (Y720).keep K733
      have Y737 := (Y721).keep K733 (ninS hdA nin0)
      have Y738 := (Y723).keep K733 (ninS Y168 nin0)
      have Y739 := (Y724).keep K733 (ninS Y270 nin0)
      refine w729.ist Y739 (i := 1) rfl (by simp) Y274 (dc.g 104 rfl) ?_
      intro T740 h742 w741 W743 F744
      show Go κ _ T740 157 #[.val (.int p0), .val (.int p1), .val (.int p2), .val (.int p3), .val (.int p4), .val (.ref x141), .val (.ref x158), .val (.ref x258), .val (.int (Int32.ofNat 3)), .unset] []
      obtain ⟨slW743, vvW743, WW743⟩ := W743
      have Y745 := (Y736).wr WW743
      have Y746 := (Y737).other WW743 (Or.inl (Ne.symm Y269))
      have Y747 := (F734).other WW743 (Ne.symm Y270)
      have Y748 := (Y738).other WW743 Y272
      have Y749 : Ary Z h742 x258 .int [(Int32.ofNat (ρ4_ 0)), (Int32.ofNat (ρ4_ 1)), 0, (Int32.ofNat (ρ4_ 3)), (Int32.ofNat (ρ4_ 4))] := F744
      refine blk (pc' := 173) (Ls' := #[.val (.int p0), .val (.int p1), .val (.int p2), .val (.int p3), .val (.int p4), .val (.ref x141), .val (.ref x158), .val (.ref x258), .val (.int (Int32.ofNat 3)), .unset]) (st' := [(.int (((Int32.ofNat 3) + (4 : Int32)) % (5 : Int32))), (.ref x141), (.int (((Int32.ofNat 3) + (4 : Int32)) % (5 : Int32))), (.ref x258)]) [oAload w741.ok (dc.g 105 rfl), oIload w741.ok (dc.g 106 rfl), oIconst w741.ok (dc.g 107 rfl), oIadd w741.ok (dc.g 108 rfl), oIconst w741.ok (dc.g 109 rfl), oIrem w741.ok (dc.g 110 rfl), oAload w741.ok (dc.g 111 rfl), oIload w741.ok (dc.g 112 rfl), oIconst w741.ok (dc.g 113 rfl), oIadd w741.ok (dc.g 114 rfl), oIconst w741.ok (dc.g 115 rfl), oIrem w741.ok (dc.g 116 rfl)] rfl ?_
      rw [show (((Int32.ofNat 3) + (4 : Int32)) % (5 : Int32)) = Int32.ofNat 2 from by decide]
      show Go κ _ T740 173 #[.val (.int p0), .val (.int p1), .val (.int p2), .val (.int p3), .val (.int p4), .val (.ref x141), .val (.ref x158), .val (.ref x258), .val (.int (Int32.ofNat 3)), .unset] [(.int (Int32.ofNat 2)), (.ref x141), (.int (Int32.ofNat 2)), (.ref x258)]
      show Go κ _ T740 173 #[.val (.int p0), .val (.int p1), .val (.int p2), .val (.int p3), .val (.int p4), .val (.ref x141), .val (.ref x158), .val (.ref x258), .val (.int (Int32.ofNat 3)), .unset] [(.int (Int32.ofNat 2)), (.ref x141), (.int (Int32.ofNat 2)), (.ref x258)]
      refine w741.callV (wd hw 46 rfl) (wd hw 39 rfl) (notFace (wd hw 41 rfl)) (wd hw 41 rfl) (wd hw 40 rfl) (by decide) (a := x141) Y745 (argsL := [(.int (Int32.ofNat 2))]) (Wd := 2) (Ctr.pays (len := 3) (Wd := 2) (c_root l Z a0 hw hEL (x := 2) Y745 Y746 Y747 R735 (by decide) (by decide) hA0) w741 (wd hw 42 rfl) (wd hw 2 rfl) hEL (by decide) (by decide) sfNil) pd1 rfl (st := [(.int (Int32.ofNat 2)), (.ref x258)]) rfl rfl (Nat.le_of_eq rfl) (dc.g 117 rfl) (by decide) (by decide) ?_
      intro vm750 T751 h752 v753 w754 C755 Q756
      obtain ⟨qs757, rfl, K758, F759, R760⟩ := Q756
      show Go κ _ T751 176 #[.val (.int p0), .val (.int p1), .val (.int p2), .val (.int p3), .val (.int p4), .val (.ref x141), .val (.ref x158), .val (.ref x258), .val (.int (Int32.ofNat 3)), .unset] [(.int (Int32.ofNat (ρ4_ 2))), (.int (Int32.ofNat 2)), (.ref x258)]
      have Y761 := (Y745).keep K758
      have Y762 := (Y746).keep K758 (ninS hdA nin0)
      have Y763 := (Y748).keep K758 (ninS Y168 nin0)
      have Y764 := (Y749).keep K758 (ninS Y270 nin0)
      refine w754.ist Y764 (i := 2) rfl (by simp) Y274 (dc.g 118 rfl) ?_
      intro T765 h767 w766 W768 F769
      show Go κ _ T765 177 #[.val (.int p0), .val (.int p1), .val (.int p2), .val (.int p3), .val (.int p4), .val (.ref x141), .val (.ref x158), .val (.ref x258), .val (.int (Int32.ofNat 3)), .unset] []
      obtain ⟨slW768, vvW768, WW768⟩ := W768
      have Y770 := (Y761).wr WW768
      have Y771 := (Y762).other WW768 (Or.inl (Ne.symm Y269))
      have Y772 := (F759).other WW768 (Ne.symm Y270)
      have Y773 := (Y763).other WW768 Y272
      have Y774 : Ary Z h767 x258 .int [(Int32.ofNat (ρ4_ 0)), (Int32.ofNat (ρ4_ 1)), (Int32.ofNat (ρ4_ 2)), (Int32.ofNat (ρ4_ 3)), (Int32.ofNat (ρ4_ 4))] := F769
      exact k177 _ _ _ (w766.mono (by decide) (by decide)) Y774 Y773
    · show Go κ _ T255 81 #[.val (.int p0), .val (.int p1), .val (.int p2), .val (.int p3), .val (.int p4), .val (.ref x141), .val (.ref x158), .val (.ref x258), .val (.int (Int32.ofNat 4)), .unset] []
      refine blk (pc' := 93) (Ls' := #[.val (.int p0), .val (.int p1), .val (.int p2), .val (.int p3), .val (.int p4), .val (.ref x141), .val (.ref x158), .val (.ref x258), .val (.int (Int32.ofNat 4)), .unset]) (st' := [(.int ((Int32.ofNat 4) % (5 : Int32))), (.ref x141), (.int ((Int32.ofNat 4) % (5 : Int32))), (.ref x258)]) [oAload w256.ok (dc.g 53 rfl), oIload w256.ok (dc.g 54 rfl), oIconst w256.ok (dc.g 55 rfl), oIrem w256.ok (dc.g 56 rfl), oAload w256.ok (dc.g 57 rfl), oIload w256.ok (dc.g 58 rfl), oIconst w256.ok (dc.g 59 rfl), oIrem w256.ok (dc.g 60 rfl)] rfl ?_
      rw [show ((Int32.ofNat 4) % (5 : Int32)) = Int32.ofNat 4 from by decide]
      show Go κ _ T255 93 #[.val (.int p0), .val (.int p1), .val (.int p2), .val (.int p3), .val (.int p4), .val (.ref x141), .val (.ref x158), .val (.ref x258), .val (.int (Int32.ofNat 4)), .unset] [(.int (Int32.ofNat 4)), (.ref x141), (.int (Int32.ofNat 4)), (.ref x258)]
      show Go κ _ T255 93 #[.val (.int p0), .val (.int p1), .val (.int p2), .val (.int p3), .val (.int p4), .val (.ref x141), .val (.ref x158), .val (.ref x258), .val (.int (Int32.ofNat 4)), .unset] [(.int (Int32.ofNat 4)), (.ref x141), (.int (Int32.ofNat 4)), (.ref x258)]
      refine w256.callV (wd hw 46 rfl) (wd hw 39 rfl) (notFace (wd hw 41 rfl)) (wd hw 41 rfl) (wd hw 40 rfl) (by decide) (a := x141) Y265 (argsL := [(.int (Int32.ofNat 4))]) (Wd := 2) (Ctr.pays (len := 3) (Wd := 2) (c_root l Z a0 hw hEL (x := 4) Y265 Y266 Y267 RS (by decide) (by decide) hA0) w256 (wd hw 42 rfl) (wd hw 2 rfl) hEL (by decide) (by decide) sfNil) pd1 rfl (st := [(.int (Int32.ofNat 4)), (.ref x258)]) rfl rfl (Nat.le_of_eq rfl) (dc.g 61 rfl) (by decide) (by decide) ?_
      intro vm775 T776 h777 v778 w779 C780 Q781
      obtain ⟨qs782, rfl, K783, F784, R785⟩ := Q781
      show Go κ _ T776 96 #[.val (.int p0), .val (.int p1), .val (.int p2), .val (.int p3), .val (.int p4), .val (.ref x141), .val (.ref x158), .val (.ref x258), .val (.int (Int32.ofNat 4)), .unset] [(.int (Int32.ofNat (ρ4_ 4))), (.int (Int32.ofNat 4)), (.ref x258)]
      have Y786 := (Y265).keep K783
      have Y787 := (Y266).keep K783 (ninS hdA nin0)
      have Y788 := (Y268).keep K783 (ninS Y168 nin0)
      have Y789 := (Y273).keep K783 (ninS Y270 nin0)
      refine w779.ist Y789 (i := 4) rfl (by simp) Y274 (dc.g 62 rfl) ?_
      intro T790 h792 w791 W793 F794
      show Go κ _ T790 97 #[.val (.int p0), .val (.int p1), .val (.int p2), .val (.int p3), .val (.int p4), .val (.ref x141), .val (.ref x158), .val (.ref x258), .val (.int (Int32.ofNat 4)), .unset] []
      obtain ⟨slW793, vvW793, WW793⟩ := W793
      have Y795 := (Y786).wr WW793
      have Y796 := (Y787).other WW793 (Or.inl (Ne.symm Y269))
      have Y797 := (F784).other WW793 (Ne.symm Y270)
      have Y798 := (Y788).other WW793 Y272
      have Y799 : Ary Z h792 x258 .int [0, 0, 0, 0, (Int32.ofNat (ρ4_ 4))] := F794
      refine blk (pc' := 113) (Ls' := #[.val (.int p0), .val (.int p1), .val (.int p2), .val (.int p3), .val (.int p4), .val (.ref x141), .val (.ref x158), .val (.ref x258), .val (.int (Int32.ofNat 4)), .unset]) (st' := [(.int (((Int32.ofNat 4) + (1 : Int32)) % (5 : Int32))), (.ref x141), (.int (((Int32.ofNat 4) + (1 : Int32)) % (5 : Int32))), (.ref x258)]) [oAload w791.ok (dc.g 63 rfl), oIload w791.ok (dc.g 64 rfl), oIconst w791.ok (dc.g 65 rfl), oIadd w791.ok (dc.g 66 rfl), oIconst w791.ok (dc.g 67 rfl), oIrem w791.ok (dc.g 68 rfl), oAload w791.ok (dc.g 69 rfl), oIload w791.ok (dc.g 70 rfl), oIconst w791.ok (dc.g 71 rfl), oIadd w791.ok (dc.g 72 rfl), oIconst w791.ok (dc.g 73 rfl), oIrem w791.ok (dc.g 74 rfl)] rfl ?_
      rw [show (((Int32.ofNat 4) + (1 : Int32)) % (5 : Int32)) = Int32.ofNat 0 from by decide]
      show Go κ _ T790 113 #[.val (.int p0), .val (.int p1), .val (.int p2), .val (.int p3), .val (.int p4), .val (.ref x141), .val (.ref x158), .val (.ref x258), .val (.int (Int32.ofNat 4)), .unset] [(.int (Int32.ofNat 0)), (.ref x141), (.int (Int32.ofNat 0)), (.ref x258)]
      show Go κ _ T790 113 #[.val (.int p0), .val (.int p1), .val (.int p2), .val (.int p3), .val (.int p4), .val (.ref x141), .val (.ref x158), .val (.ref x258), .val (.int (Int32.ofNat 4)), .unset] [(.int (Int32.ofNat 0)), (.ref x141), (.int (Int32.ofNat 0)), (.ref x258)]
      refine w791.callV (wd hw 46 rfl) (wd hw 39 rfl) (notFace (wd hw 41 rfl)) (wd hw 41 rfl) (wd hw 40 rfl) (by decide) (a := x141) Y795 (argsL := [(.int (Int32.ofNat 0))]) (Wd := 2) (Ctr.pays (len := 3) (Wd := 2) (c_root l Z a0 hw hEL (x := 0) Y795 Y796 Y797 R785 (by decide) (by decide) hA0) w791 (wd hw 42 rfl) (wd hw 2 rfl) hEL (by decide) (by decide) sfNil) pd1 rfl (st := [(.int (Int32.ofNat 0)), (.ref x258)]) rfl rfl (Nat.le_of_eq rfl) (dc.g 75 rfl) (by decide) (by decide) ?_
      intro vm800 T801 h802 v803 w804 C805 Q806
      obtain ⟨qs807, rfl, K808, F809, R810⟩ := Q806
      show Go κ _ T801 116 #[.val (.int p0), .val (.int p1), .val (.int p2), .val (.int p3), .val (.int p4), .val (.ref x141), .val (.ref x158), .val (.ref x258), .val (.int (Int32.ofNat 4)), .unset] [(.int (Int32.ofNat (ρ4_ 0))), (.int (Int32.ofNat 0)), (.ref x258)]
      have Y811 := (Y795).keep K808
      have Y812 := (Y796).keep K808 (ninS hdA nin0)
      have Y813 := (Y798).keep K808 (ninS Y168 nin0)
      have Y814 := (Y799).keep K808 (ninS Y270 nin0)
      refine w804.ist Y814 (i := 0) rfl (by simp) Y274 (dc.g 76 rfl) ?_
      intro T815 h817 w816 W818 F819
      show Go κ _ T815 117 #[.val (.int p0), .val (.int p1), .val (.int p2), .val (.int p3), .val (.int p4), .val (.ref x141), .val (.ref x158), .val (.ref x258), .val (.int (Int32.ofNat 4)), .unset] []
      obtain ⟨slW818, vvW818, WW818⟩ := W818
      have Y820 := (Y811).wr WW818
      have Y821 := (Y812).other WW818 (Or.inl (Ne.symm Y269))
      have Y822 := (F809).other WW818 (Ne.symm Y270)
      have Y823 := (Y813).other WW818 Y272
      have Y824 : Ary Z h817 x258 .int [(Int32.ofNat (ρ4_ 0)), 0, 0, 0, (Int32.ofNat (ρ4_ 4))] := F819
      refine blk (pc' := 133) (Ls' := #[.val (.int p0), .val (.int p1), .val (.int p2), .val (.int p3), .val (.int p4), .val (.ref x141), .val (.ref x158), .val (.ref x258), .val (.int (Int32.ofNat 4)), .unset]) (st' := [(.int (((Int32.ofNat 4) + (2 : Int32)) % (5 : Int32))), (.ref x141), (.int (((Int32.ofNat 4) + (2 : Int32)) % (5 : Int32))), (.ref x258)]) [oAload w816.ok (dc.g 77 rfl), oIload w816.ok (dc.g 78 rfl), oIconst w816.ok (dc.g 79 rfl), oIadd w816.ok (dc.g 80 rfl), oIconst w816.ok (dc.g 81 rfl), oIrem w816.ok (dc.g 82 rfl), oAload w816.ok (dc.g 83 rfl), oIload w816.ok (dc.g 84 rfl), oIconst w816.ok (dc.g 85 rfl), oIadd w816.ok (dc.g 86 rfl), oIconst w816.ok (dc.g 87 rfl), oIrem w816.ok (dc.g 88 rfl)] rfl ?_
      rw [show (((Int32.ofNat 4) + (2 : Int32)) % (5 : Int32)) = Int32.ofNat 1 from by decide]
      show Go κ _ T815 133 #[.val (.int p0), .val (.int p1), .val (.int p2), .val (.int p3), .val (.int p4), .val (.ref x141), .val (.ref x158), .val (.ref x258), .val (.int (Int32.ofNat 4)), .unset] [(.int (Int32.ofNat 1)), (.ref x141), (.int (Int32.ofNat 1)), (.ref x258)]
      show Go κ _ T815 133 #[.val (.int p0), .val (.int p1), .val (.int p2), .val (.int p3), .val (.int p4), .val (.ref x141), .val (.ref x158), .val (.ref x258), .val (.int (Int32.ofNat 4)), .unset] [(.int (Int32.ofNat 1)), (.ref x141), (.int (Int32.ofNat 1)), (.ref x258)]
      refine w816.callV (wd hw 46 rfl) (wd hw 39 rfl) (notFace (wd hw 41 rfl)) (wd hw 41 rfl) (wd hw 40 rfl) (by decide) (a := x141) Y820 (argsL := [(.int (Int32.ofNat 1))]) (Wd := 2) (Ctr.pays (len := 3) (Wd := 2) (c_root l Z a0 hw hEL (x := 1) Y820 Y821 Y822 R810 (by decide) (by decide) hA0) w816 (wd hw 42 rfl) (wd hw 2 rfl) hEL (by decide) (by decide) sfNil) pd1 rfl (st := [(.int (Int32.ofNat 1)), (.ref x258)]) rfl rfl (Nat.le_of_eq rfl) (dc.g 89 rfl) (by decide) (by decide) ?_
      intro vm825 T826 h827 v828 w829 C830 Q831
      obtain ⟨qs832, rfl, K833, F834, R835⟩ := Q831
      show Go κ _ T826 136 #[.val (.int p0), .val (.int p1), .val (.int p2), .val (.int p3), .val (.int p4), .val (.ref x141), .val (.ref x158), .val (.ref x258), .val (.int (Int32.ofNat 4)), .unset] [(.int (Int32.ofNat (ρ4_ 1))), (.int (Int32.ofNat 1)), (.ref x258)]
      have Y836 := (Y820).keep K833
      have Y837 := (Y821).keep K833 (ninS hdA nin0)
      have Y838 := (Y823).keep K833 (ninS Y168 nin0)
      have Y839 := (Y824).keep K833 (ninS Y270 nin0)
      refine w829.ist Y839 (i := 1) rfl (by simp) Y274 (dc.g 90 rfl) ?_
      intro T840 h842 w841 W843 F844
      show Go κ _ T840 137 #[.val (.int p0), .val (.int p1), .val (.int p2), .val (.int p3), .val (.int p4), .val (.ref x141), .val (.ref x158), .val (.ref x258), .val (.int (Int32.ofNat 4)), .unset] []
      obtain ⟨slW843, vvW843, WW843⟩ := W843
      have Y845 := (Y836).wr WW843
      have Y846 := (Y837).other WW843 (Or.inl (Ne.symm Y269))
      have Y847 := (F834).other WW843 (Ne.symm Y270)
      have Y848 := (Y838).other WW843 Y272
      have Y849 : Ary Z h842 x258 .int [(Int32.ofNat (ρ4_ 0)), (Int32.ofNat (ρ4_ 1)), 0, 0, (Int32.ofNat (ρ4_ 4))] := F844
      refine blk (pc' := 153) (Ls' := #[.val (.int p0), .val (.int p1), .val (.int p2), .val (.int p3), .val (.int p4), .val (.ref x141), .val (.ref x158), .val (.ref x258), .val (.int (Int32.ofNat 4)), .unset]) (st' := [(.int (((Int32.ofNat 4) + (3 : Int32)) % (5 : Int32))), (.ref x141), (.int (((Int32.ofNat 4) + (3 : Int32)) % (5 : Int32))), (.ref x258)]) [oAload w841.ok (dc.g 91 rfl), oIload w841.ok (dc.g 92 rfl), oIconst w841.ok (dc.g 93 rfl), oIadd w841.ok (dc.g 94 rfl), oIconst w841.ok (dc.g 95 rfl), oIrem w841.ok (dc.g 96 rfl), oAload w841.ok (dc.g 97 rfl), oIload w841.ok (dc.g 98 rfl), oIconst w841.ok (dc.g 99 rfl), oIadd w841.ok (dc.g 100 rfl), oIconst w841.ok (dc.g 101 rfl), oIrem w841.ok (dc.g 102 rfl)] rfl ?_
      rw [show (((Int32.ofNat 4) + (3 : Int32)) % (5 : Int32)) = Int32.ofNat 2 from by decide]
      show Go κ _ T840 153 #[.val (.int p0), .val (.int p1), .val (.int p2), .val (.int p3), .val (.int p4), .val (.ref x141), .val (.ref x158), .val (.ref x258), .val (.int (Int32.ofNat 4)), .unset] [(.int (Int32.ofNat 2)), (.ref x141), (.int (Int32.ofNat 2)), (.ref x258)]
      show Go κ _ T840 153 #[.val (.int p0), .val (.int p1), .val (.int p2), .val (.int p3), .val (.int p4), .val (.ref x141), .val (.ref x158), .val (.ref x258), .val (.int (Int32.ofNat 4)), .unset] [(.int (Int32.ofNat 2)), (.ref x141), (.int (Int32.ofNat 2)), (.ref x258)]
      refine w841.callV (wd hw 46 rfl) (wd hw 39 rfl) (notFace (wd hw 41 rfl)) (wd hw 41 rfl) (wd hw 40 rfl) (by decide) (a := x141) Y845 (argsL := [(.int (Int32.ofNat 2))]) (Wd := 2) (Ctr.pays (len := 3) (Wd := 2) (c_root l Z a0 hw hEL (x := 2) Y845 Y846 Y847 R835 (by decide) (by decide) hA0) w841 (wd hw 42 rfl) (wd hw 2 rfl) hEL (by decide) (by decide) sfNil) pd1 rfl (st := [(.int (Int32.ofNat 2)), (.ref x258)]) rfl rfl (Nat.le_of_eq rfl) (dc.g 103 rfl) (by decide) (by decide) ?_
      intro vm850 T851 h852 v853 w854 C855 Q856
      obtain ⟨qs857, rfl, K858, F859, R860⟩ := Q856
      show Go κ _ T851 156 #[.val (.int p0), .val (.int p1), .val (.int p2), .val (.int p3), .val (.int p4), .val (.ref x141), .val (.ref x158), .val (.ref x258), .val (.int (Int32.ofNat 4)), .unset] [(.int (Int32.ofNat (ρ4_ 2))), (.int (Int32.ofNat 2)), (.ref x258)]
      have Y861 := (Y845).keep K858
      have Y862 := (Y846).keep K858 (ninS hdA nin0)
      have Y863 := (Y848).keep K858 (ninS Y168 nin0)
      have Y864 := (Y849).keep K858 (ninS Y270 nin0)
      refine w854.ist Y864 (i := 2) rfl (by simp) Y274 (dc.g 104 rfl) ?_
      intro T865 h867 w866 W868 F869
      show Go κ _ T865 157 #[.val (.int p0), .val (.int p1), .val (.int p2), .val (.int p3), .val (.int p4), .val (.ref x141), .val (.ref x158), .val (.ref x258), .val (.int (Int32.ofNat 4)), .unset] []
      obtain ⟨slW868, vvW868, WW868⟩ := W868
      have Y870 := (Y861).wr WW868
      have Y871 := (Y862).other WW868 (Or.inl (Ne.symm Y269))
      have Y872 := (F859).other WW868 (Ne.symm Y270)
      have Y873 := (Y863).other WW868 Y272
      have Y874 : Ary Z h867 x258 .int [(Int32.ofNat (ρ4_ 0)), (Int32.ofNat (ρ4_ 1)), (Int32.ofNat (ρ4_ 2)), 0, (Int32.ofNat (ρ4_ 4))] := F869
      refine blk (pc' := 173) (Ls' := #[.val (.int p0), .val (.int p1), .val (.int p2), .val (.int p3), .val (.int p4), .val (.ref x141), .val (.ref x158), .val (.ref x258), .val (.int (Int32.ofNat 4)), .unset]) (st' := [(.int (((Int32.ofNat 4) + (4 : Int32)) % (5 : Int32))), (.ref x141), (.int (((Int32.ofNat 4) + (4 : Int32)) % (5 : Int32))), (.ref x258)]) [oAload w866.ok (dc.g 105 rfl), oIload w866.ok (dc.g 106 rfl), oIconst w866.ok (dc.g 107 rfl), oIadd w866.ok (dc.g 108 rfl), oIconst w866.ok (dc.g 109 rfl), oIrem w866.ok (dc.g 110 rfl), oAload w866.ok (dc.g 111 rfl), oIload w866.ok (dc.g 112 rfl), oIconst w866.ok (dc.g 113 rfl), oIadd w866.ok (dc.g 114 rfl), oIconst w866.ok (dc.g 115 rfl), oIrem w866.ok (dc.g 116 rfl)] rfl ?_
      rw [show (((Int32.ofNat 4) + (4 : Int32)) % (5 : Int32)) = Int32.ofNat 3 from by decide]
      show Go κ _ T865 173 #[.val (.int p0), .val (.int p1), .val (.int p2), .val (.int p3), .val (.int p4), .val (.ref x141), .val (.ref x158), .val (.ref x258), .val (.int (Int32.ofNat 4)), .unset] [(.int (Int32.ofNat 3)), (.ref x141), (.int (Int32.ofNat 3)), (.ref x258)]
      show Go κ _ T865 173 #[.val (.int p0), .val (.int p1), .val (.int p2), .val (.int p3), .val (.int p4), .val (.ref x141), .val (.ref x158), .val (.ref x258), .val (.int (Int32.ofNat 4)), .unset] [(.int (Int32.ofNat 3)), (.ref x141), (.int (Int32.ofNat 3)), (.ref x258)]
      refine w866.callV (wd hw 46 rfl) (wd hw 39 rfl) (notFace (wd hw 41 rfl)) (wd hw 41 rfl) (wd hw 40 rfl) (by decide) (a := x141) Y870 (argsL := [(.int (Int32.ofNat 3))]) (Wd := 2) (Ctr.pays (len := 3) (Wd := 2) (c_root l Z a0 hw hEL (x := 3) Y870 Y871 Y872 R860 (by decide) (by decide) hA0) w866 (wd hw 42 rfl) (wd hw 2 rfl) hEL (by decide) (by decide) sfNil) pd1 rfl (st := [(.int (Int32.ofNat 3)), (.ref x258)]) rfl rfl (Nat.le_of_eq rfl) (dc.g 117 rfl) (by decide) (by decide) ?_
      intro vm875 T876 h877 v878 w879 C880 Q881
      obtain ⟨qs882, rfl, K883, F884, R885⟩ := Q881
      show Go κ _ T876 176 #[.val (.int p0), .val (.int p1), .val (.int p2), .val (.int p3), .val (.int p4), .val (.ref x141), .val (.ref x158), .val (.ref x258), .val (.int (Int32.ofNat 4)), .unset] [(.int (Int32.ofNat (ρ4_ 3))), (.int (Int32.ofNat 3)), (.ref x258)]
      have Y886 := (Y870).keep K883
      have Y887 := (Y871).keep K883 (ninS hdA nin0)
      have Y888 := (Y873).keep K883 (ninS Y168 nin0)
      have Y889 := (Y874).keep K883 (ninS Y270 nin0)
      refine w879.ist Y889 (i := 3) rfl (by simp) Y274 (dc.g 118 rfl) ?_
      intro T890 h892 w891 W893 F894
      show Go κ _ T890 177 #[.val (.int p0), .val (.int p1), .val (.int p2), .val (.int p3), .val (.int p4), .val (.ref x141), .val (.ref x158), .val (.ref x258), .val (.int (Int32.ofNat 4)), .unset] []
      obtain ⟨slW893, vvW893, WW893⟩ := W893
      have Y895 := (Y886).wr WW893
      have Y896 := (Y887).other WW893 (Or.inl (Ne.symm Y269))
      have Y897 := (F884).other WW893 (Ne.symm Y270)
      have Y898 := (Y888).other WW893 Y272
      have Y899 : Ary Z h892 x258 .int [(Int32.ofNat (ρ4_ 0)), (Int32.ofNat (ρ4_ 1)), (Int32.ofNat (ρ4_ 2)), (Int32.ofNat (ρ4_ 3)), (Int32.ofNat (ρ4_ 4))] := F894
      exact k177 _ _ _ (w891.mono (by decide) (by decide)) Y899 Y898
  intro vm177 T177 h177 w177 FR FL
  show Go κ _ T177 177 #[.val (.int p0), .val (.int p1), .val (.int p2), .val (.int p3), .val (.int p4), .val (.ref x141), .val (.ref x158), .val (.ref x258), .val (.int (Int32.ofNat kk)), .unset] []
  have hr : ∀ j, j < 5 → ([Int32.ofNat (ρ4_ 0), Int32.ofNat (ρ4_ 1), Int32.ofNat (ρ4_ 2), Int32.ofNat (ρ4_ 3), Int32.ofNat (ρ4_ 4)] : List Int32)[j]? = some (Int32.ofNat (ρ4_ j)) := at5 (f := fun j => Int32.ofNat (ρ4_ j))
  have hl : ∀ j, j < 5 → ([L4_ 0, L4_ 1, L4_ 2, L4_ 3, L4_ 4] : List Int32)[j]? = some (L4_ j) := at5 (f := L4_)
  have hs0 := RS.lt (x := 0) (by decide)
  have hs1 := RS.lt (x := 1) (by decide)
  have hs2 := RS.lt (x := 2) (by decide)
  have hs3 := RS.lt (x := 3) (by decide)
  have hs4 := RS.lt (x := 4) (by decide)
  refine blk (pc' := 182) (Ls' := #[.val (.int p0), .val (.int p1), .val (.int p2), .val (.int p3), .val (.int p4), .val (.ref x141), .val (.ref x158), .val (.ref x258), .val (.int (Int32.ofNat kk)), .unset]) (st' := [(.int (0 : Int32)), (.ref x158), (.ref x258)]) [oAload w177.ok (dc.g 119 rfl), oAload w177.ok (dc.g 120 rfl), oIconst w177.ok (dc.g 121 rfl)] rfl ?_
  show Go κ _ T177 182 #[.val (.int p0), .val (.int p1), .val (.int p2), .val (.int p3), .val (.int p4), .val (.ref x141), .val (.ref x158), .val (.ref x258), .val (.int (Int32.ofNat kk)), .unset] [(.int (Int32.ofNat 0)), (.ref x158), (.ref x258)]
  refine w177.callS (wd hw 47 rfl) (wd hw 48 rfl) (wd hw 30 rfl) (wd hw 49 rfl) (by decide) (argsL := [(.ref x258), (.ref x158), (.int (Int32.ofNat 0))]) (Wd := 0) (Ctr.pays (len := 3) (Wd := 0) (c_mem l Z a0 hw hEL FR FL (hr 0 (by decide)) hs0 (u := L4_ 0) (by rw [hl _ hs0, (I4_ _ 0 hs0 (by decide)).mpr (RS.idem (by decide))]) (hl 0 (by decide))) w177 (wd hw 49 rfl) (wd hw 30 rfl) hEL (by decide) (by decide) sfNil) pd7 rfl (st := []) rfl rfl (Nat.le_of_eq rfl) (dc.g 122 rfl) (by decide) (by decide) ?_
  intro vm900 T901 h902 v903 w904 C905 Q906
  obtain ⟨eQ906, rfl⟩ := Q906
  subst eQ906
  show Go κ _ T901 185 #[.val (.int p0), .val (.int p1), .val (.int p2), .val (.int p3), .val (.int p4), .val (.ref x141), .val (.ref x158), .val (.ref x258), .val (.int (Int32.ofNat kk)), .unset] [(.int (1 : Int32))]
  refine zEq (pc' := 236) w904.ok (dc.g 123 rfl) (by decide) (by decide) (fun hc907 => absurd hc907 (by decide)) (fun hc907 => ?_)
  show Go κ _ T901 188 #[.val (.int p0), .val (.int p1), .val (.int p2), .val (.int p3), .val (.int p4), .val (.ref x141), .val (.ref x158), .val (.ref x258), .val (.int (Int32.ofNat kk)), .unset] []
  refine blk (pc' := 193) (Ls' := #[.val (.int p0), .val (.int p1), .val (.int p2), .val (.int p3), .val (.int p4), .val (.ref x141), .val (.ref x158), .val (.ref x258), .val (.int (Int32.ofNat kk)), .unset]) (st' := [(.int (1 : Int32)), (.ref x158), (.ref x258)]) [oAload w904.ok (dc.g 124 rfl), oAload w904.ok (dc.g 125 rfl), oIconst w904.ok (dc.g 126 rfl)] rfl ?_
  show Go κ _ T901 193 #[.val (.int p0), .val (.int p1), .val (.int p2), .val (.int p3), .val (.int p4), .val (.ref x141), .val (.ref x158), .val (.ref x258), .val (.int (Int32.ofNat kk)), .unset] [(.int (Int32.ofNat 1)), (.ref x158), (.ref x258)]
  refine w904.callS (wd hw 47 rfl) (wd hw 48 rfl) (wd hw 30 rfl) (wd hw 49 rfl) (by decide) (argsL := [(.ref x258), (.ref x158), (.int (Int32.ofNat 1))]) (Wd := 0) (Ctr.pays (len := 3) (Wd := 0) (c_mem l Z a0 hw hEL FR FL (hr 1 (by decide)) hs1 (u := L4_ 1) (by rw [hl _ hs1, (I4_ _ 1 hs1 (by decide)).mpr (RS.idem (by decide))]) (hl 1 (by decide))) w904 (wd hw 49 rfl) (wd hw 30 rfl) hEL (by decide) (by decide) sfNil) pd7 rfl (st := []) rfl rfl (Nat.le_of_eq rfl) (dc.g 127 rfl) (by decide) (by decide) ?_
  intro vm908 T909 h910 v911 w912 C913 Q914
  obtain ⟨eQ914, rfl⟩ := Q914
  subst eQ914
  show Go κ _ T909 196 #[.val (.int p0), .val (.int p1), .val (.int p2), .val (.int p3), .val (.int p4), .val (.ref x141), .val (.ref x158), .val (.ref x258), .val (.int (Int32.ofNat kk)), .unset] [(.int (1 : Int32))]
  refine zEq (pc' := 236) w912.ok (dc.g 128 rfl) (by decide) (by decide) (fun hc915 => absurd hc915 (by decide)) (fun hc915 => ?_)
  show Go κ _ T909 199 #[.val (.int p0), .val (.int p1), .val (.int p2), .val (.int p3), .val (.int p4), .val (.ref x141), .val (.ref x158), .val (.ref x258), .val (.int (Int32.ofNat kk)), .unset] []
  refine blk (pc' := 204) (Ls' := #[.val (.int p0), .val (.int p1), .val (.int p2), .val (.int p3), .val (.int p4), .val (.ref x141), .val (.ref x158), .val (.ref x258), .val (.int (Int32.ofNat kk)), .unset]) (st' := [(.int (2 : Int32)), (.ref x158), (.ref x258)]) [oAload w912.ok (dc.g 129 rfl), oAload w912.ok (dc.g 130 rfl), oIconst w912.ok (dc.g 131 rfl)] rfl ?_
  show Go κ _ T909 204 #[.val (.int p0), .val (.int p1), .val (.int p2), .val (.int p3), .val (.int p4), .val (.ref x141), .val (.ref x158), .val (.ref x258), .val (.int (Int32.ofNat kk)), .unset] [(.int (Int32.ofNat 2)), (.ref x158), (.ref x258)]
  refine w912.callS (wd hw 47 rfl) (wd hw 48 rfl) (wd hw 30 rfl) (wd hw 49 rfl) (by decide) (argsL := [(.ref x258), (.ref x158), (.int (Int32.ofNat 2))]) (Wd := 0) (Ctr.pays (len := 3) (Wd := 0) (c_mem l Z a0 hw hEL FR FL (hr 2 (by decide)) hs2 (u := L4_ 2) (by rw [hl _ hs2, (I4_ _ 2 hs2 (by decide)).mpr (RS.idem (by decide))]) (hl 2 (by decide))) w912 (wd hw 49 rfl) (wd hw 30 rfl) hEL (by decide) (by decide) sfNil) pd7 rfl (st := []) rfl rfl (Nat.le_of_eq rfl) (dc.g 132 rfl) (by decide) (by decide) ?_
  intro vm916 T917 h918 v919 w920 C921 Q922
  obtain ⟨eQ922, rfl⟩ := Q922
  subst eQ922
  show Go κ _ T917 207 #[.val (.int p0), .val (.int p1), .val (.int p2), .val (.int p3), .val (.int p4), .val (.ref x141), .val (.ref x158), .val (.ref x258), .val (.int (Int32.ofNat kk)), .unset] [(.int (1 : Int32))]
  refine zEq (pc' := 236) w920.ok (dc.g 133 rfl) (by decide) (by decide) (fun hc923 => absurd hc923 (by decide)) (fun hc923 => ?_)
  show Go κ _ T917 210 #[.val (.int p0), .val (.int p1), .val (.int p2), .val (.int p3), .val (.int p4), .val (.ref x141), .val (.ref x158), .val (.ref x258), .val (.int (Int32.ofNat kk)), .unset] []
  refine blk (pc' := 215) (Ls' := #[.val (.int p0), .val (.int p1), .val (.int p2), .val (.int p3), .val (.int p4), .val (.ref x141), .val (.ref x158), .val (.ref x258), .val (.int (Int32.ofNat kk)), .unset]) (st' := [(.int (3 : Int32)), (.ref x158), (.ref x258)]) [oAload w920.ok (dc.g 134 rfl), oAload w920.ok (dc.g 135 rfl), oIconst w920.ok (dc.g 136 rfl)] rfl ?_
  show Go κ _ T917 215 #[.val (.int p0), .val (.int p1), .val (.int p2), .val (.int p3), .val (.int p4), .val (.ref x141), .val (.ref x158), .val (.ref x258), .val (.int (Int32.ofNat kk)), .unset] [(.int (Int32.ofNat 3)), (.ref x158), (.ref x258)]
  refine w920.callS (wd hw 47 rfl) (wd hw 48 rfl) (wd hw 30 rfl) (wd hw 49 rfl) (by decide) (argsL := [(.ref x258), (.ref x158), (.int (Int32.ofNat 3))]) (Wd := 0) (Ctr.pays (len := 3) (Wd := 0) (c_mem l Z a0 hw hEL FR FL (hr 3 (by decide)) hs3 (u := L4_ 3) (by rw [hl _ hs3, (I4_ _ 3 hs3 (by decide)).mpr (RS.idem (by decide))]) (hl 3 (by decide))) w920 (wd hw 49 rfl) (wd hw 30 rfl) hEL (by decide) (by decide) sfNil) pd7 rfl (st := []) rfl rfl (Nat.le_of_eq rfl) (dc.g 137 rfl) (by decide) (by decide) ?_
  intro vm924 T925 h926 v927 w928 C929 Q930
  obtain ⟨eQ930, rfl⟩ := Q930
  subst eQ930
  show Go κ _ T925 218 #[.val (.int p0), .val (.int p1), .val (.int p2), .val (.int p3), .val (.int p4), .val (.ref x141), .val (.ref x158), .val (.ref x258), .val (.int (Int32.ofNat kk)), .unset] [(.int (1 : Int32))]
  refine zEq (pc' := 236) w928.ok (dc.g 138 rfl) (by decide) (by decide) (fun hc931 => absurd hc931 (by decide)) (fun hc931 => ?_)
  show Go κ _ T925 221 #[.val (.int p0), .val (.int p1), .val (.int p2), .val (.int p3), .val (.int p4), .val (.ref x141), .val (.ref x158), .val (.ref x258), .val (.int (Int32.ofNat kk)), .unset] []
  refine blk (pc' := 226) (Ls' := #[.val (.int p0), .val (.int p1), .val (.int p2), .val (.int p3), .val (.int p4), .val (.ref x141), .val (.ref x158), .val (.ref x258), .val (.int (Int32.ofNat kk)), .unset]) (st' := [(.int (4 : Int32)), (.ref x158), (.ref x258)]) [oAload w928.ok (dc.g 139 rfl), oAload w928.ok (dc.g 140 rfl), oIconst w928.ok (dc.g 141 rfl)] rfl ?_
  show Go κ _ T925 226 #[.val (.int p0), .val (.int p1), .val (.int p2), .val (.int p3), .val (.int p4), .val (.ref x141), .val (.ref x158), .val (.ref x258), .val (.int (Int32.ofNat kk)), .unset] [(.int (Int32.ofNat 4)), (.ref x158), (.ref x258)]
  refine w928.callS (wd hw 47 rfl) (wd hw 48 rfl) (wd hw 30 rfl) (wd hw 49 rfl) (by decide) (argsL := [(.ref x258), (.ref x158), (.int (Int32.ofNat 4))]) (Wd := 0) (Ctr.pays (len := 3) (Wd := 0) (c_mem l Z a0 hw hEL FR FL (hr 4 (by decide)) hs4 (u := L4_ 4) (by rw [hl _ hs4, (I4_ _ 4 hs4 (by decide)).mpr (RS.idem (by decide))]) (hl 4 (by decide))) w928 (wd hw 49 rfl) (wd hw 30 rfl) hEL (by decide) (by decide) sfNil) pd7 rfl (st := []) rfl rfl (Nat.le_of_eq rfl) (dc.g 142 rfl) (by decide) (by decide) ?_
  intro vm932 T933 h934 v935 w936 C937 Q938
  obtain ⟨eQ938, rfl⟩ := Q938
  subst eQ938
  show Go κ _ T933 229 #[.val (.int p0), .val (.int p1), .val (.int p2), .val (.int p3), .val (.int p4), .val (.ref x141), .val (.ref x158), .val (.ref x258), .val (.int (Int32.ofNat kk)), .unset] [(.int (1 : Int32))]
  refine zEq (pc' := 236) w936.ok (dc.g 143 rfl) (by decide) (by decide) (fun hc939 => absurd hc939 (by decide)) (fun hc939 => ?_)
  show Go κ _ T933 232 #[.val (.int p0), .val (.int p1), .val (.int p2), .val (.int p3), .val (.int p4), .val (.ref x141), .val (.ref x158), .val (.ref x258), .val (.int (Int32.ofNat kk)), .unset] []
  refine blk (pc' := 241) (Ls' := #[.val (.int p0), .val (.int p1), .val (.int p2), .val (.int p3), .val (.int p4), .val (.ref x141), .val (.ref x158), .val (.ref x258), .val (.int (Int32.ofNat kk)), .val (.int (1 : Int32))]) (st' := [(.int (1 : Int32))]) [oIconst w936.ok (dc.g 144 rfl), oGoto w936.ok 237 (dc.g 145 rfl), oIstore w936.ok (dc.g 147 rfl), oIload w936.ok (dc.g 148 rfl)] rfl ?_
  refine zNe (pc' := 246) w936.ok (dc.g 149 rfl) (by decide) (by decide) (fun hc940 => ?_) (fun hc940 => absurd hc940 (by decide))
  show Go κ _ T933 246 #[.val (.int p0), .val (.int p1), .val (.int p2), .val (.int p3), .val (.int p4), .val (.ref x141), .val (.ref x158), .val (.ref x258), .val (.int (Int32.ofNat kk)), .val (.int (1 : Int32))] []
  refine blk (pc' := 252) (Ls' := #[.val (.int p0), .val (.int p1), .val (.int p2), .val (.int p3), .val (.int p4), .val (.ref x141), .val (.ref x158), .val (.ref x258), .val (.int (Int32.ofNat kk)), .val (.int (1 : Int32))]) (st' := [(.int (1 : Int32)), (.int (0 : Int32)), (.ref x158), (.ref x258)]) [oAload w936.ok (dc.g 152 rfl), oAload w936.ok (dc.g 153 rfl), oIconst w936.ok (dc.g 154 rfl), oIconst w936.ok (dc.g 155 rfl)] rfl ?_
  show Go κ _ T933 252 #[.val (.int p0), .val (.int p1), .val (.int p2), .val (.int p3), .val (.int p4), .val (.ref x141), .val (.ref x158), .val (.ref x258), .val (.int (Int32.ofNat kk)), .val (.int (1 : Int32))] [(.int (Int32.ofNat 1)), (.int (Int32.ofNat 0)), (.ref x158), (.ref x258)]
  refine w936.callS (wd hw 50 rfl) (wd hw 51 rfl) (wd hw 30 rfl) (wd hw 52 rfl) (by decide) (argsL := [(.ref x258), (.ref x158), (.int (Int32.ofNat 0)), (.int (Int32.ofNat 1))]) (Wd := 0) (Ctr.pays (len := 3) (Wd := 0) (c_pr l Z a0 hw hEL FR FL (hr 0 (by decide)) (hr 1 (by decide)) (hl 0 (by decide)) (hl 1 (by decide)) (by rw [ofNat_inj (by omega) (by omega)]; exact (I4_ 0 1 (by decide) (by decide)).symm)) w936 (wd hw 52 rfl) (wd hw 30 rfl) hEL (by decide) (by decide) sfNil) pd8 rfl (st := []) rfl rfl (Nat.le_of_eq rfl) (dc.g 156 rfl) (by decide) (by decide) ?_
  intro vm941 T942 h943 v944 w945 C946 Q947
  obtain ⟨eQ947, rfl⟩ := Q947
  subst eQ947
  show Go κ _ T942 255 #[.val (.int p0), .val (.int p1), .val (.int p2), .val (.int p3), .val (.int p4), .val (.ref x141), .val (.ref x158), .val (.ref x258), .val (.int (Int32.ofNat kk)), .val (.int (1 : Int32))] [(.int (1 : Int32))]
  refine zEq (pc' := 370) w945.ok (dc.g 157 rfl) (by decide) (by decide) (fun hc948 => absurd hc948 (by decide)) (fun hc948 => ?_)
  show Go κ _ T942 258 #[.val (.int p0), .val (.int p1), .val (.int p2), .val (.int p3), .val (.int p4), .val (.ref x141), .val (.ref x158), .val (.ref x258), .val (.int (Int32.ofNat kk)), .val (.int (1 : Int32))] []
  refine blk (pc' := 264) (Ls' := #[.val (.int p0), .val (.int p1), .val (.int p2), .val (.int p3), .val (.int p4), .val (.ref x141), .val (.ref x158), .val (.ref x258), .val (.int (Int32.ofNat kk)), .val (.int (1 : Int32))]) (st' := [(.int (2 : Int32)), (.int (0 : Int32)), (.ref x158), (.ref x258)]) [oAload w945.ok (dc.g 158 rfl), oAload w945.ok (dc.g 159 rfl), oIconst w945.ok (dc.g 160 rfl), oIconst w945.ok (dc.g 161 rfl)] rfl ?_
  show Go κ _ T942 264 #[.val (.int p0), .val (.int p1), .val (.int p2), .val (.int p3), .val (.int p4), .val (.ref x141), .val (.ref x158), .val (.ref x258), .val (.int (Int32.ofNat kk)), .val (.int (1 : Int32))] [(.int (Int32.ofNat 2)), (.int (Int32.ofNat 0)), (.ref x158), (.ref x258)]
  refine w945.callS (wd hw 50 rfl) (wd hw 51 rfl) (wd hw 30 rfl) (wd hw 52 rfl) (by decide) (argsL := [(.ref x258), (.ref x158), (.int (Int32.ofNat 0)), (.int (Int32.ofNat 2))]) (Wd := 0) (Ctr.pays (len := 3) (Wd := 0) (c_pr l Z a0 hw hEL FR FL (hr 0 (by decide)) (hr 2 (by decide)) (hl 0 (by decide)) (hl 2 (by decide)) (by rw [ofNat_inj (by omega) (by omega)]; exact (I4_ 0 2 (by decide) (by decide)).symm)) w945 (wd hw 52 rfl) (wd hw 30 rfl) hEL (by decide) (by decide) sfNil) pd8 rfl (st := []) rfl rfl (Nat.le_of_eq rfl) (dc.g 162 rfl) (by decide) (by decide) ?_
  intro vm949 T950 h951 v952 w953 C954 Q955
  obtain ⟨eQ955, rfl⟩ := Q955
  subst eQ955
  show Go κ _ T950 267 #[.val (.int p0), .val (.int p1), .val (.int p2), .val (.int p3), .val (.int p4), .val (.ref x141), .val (.ref x158), .val (.ref x258), .val (.int (Int32.ofNat kk)), .val (.int (1 : Int32))] [(.int (1 : Int32))]
  refine zEq (pc' := 370) w953.ok (dc.g 163 rfl) (by decide) (by decide) (fun hc956 => absurd hc956 (by decide)) (fun hc956 => ?_)
  show Go κ _ T950 270 #[.val (.int p0), .val (.int p1), .val (.int p2), .val (.int p3), .val (.int p4), .val (.ref x141), .val (.ref x158), .val (.ref x258), .val (.int (Int32.ofNat kk)), .val (.int (1 : Int32))] []
  refine blk (pc' := 276) (Ls' := #[.val (.int p0), .val (.int p1), .val (.int p2), .val (.int p3), .val (.int p4), .val (.ref x141), .val (.ref x158), .val (.ref x258), .val (.int (Int32.ofNat kk)), .val (.int (1 : Int32))]) (st' := [(.int (3 : Int32)), (.int (0 : Int32)), (.ref x158), (.ref x258)]) [oAload w953.ok (dc.g 164 rfl), oAload w953.ok (dc.g 165 rfl), oIconst w953.ok (dc.g 166 rfl), oIconst w953.ok (dc.g 167 rfl)] rfl ?_
  show Go κ _ T950 276 #[.val (.int p0), .val (.int p1), .val (.int p2), .val (.int p3), .val (.int p4), .val (.ref x141), .val (.ref x158), .val (.ref x258), .val (.int (Int32.ofNat kk)), .val (.int (1 : Int32))] [(.int (Int32.ofNat 3)), (.int (Int32.ofNat 0)), (.ref x158), (.ref x258)]
  refine w953.callS (wd hw 50 rfl) (wd hw 51 rfl) (wd hw 30 rfl) (wd hw 52 rfl) (by decide) (argsL := [(.ref x258), (.ref x158), (.int (Int32.ofNat 0)), (.int (Int32.ofNat 3))]) (Wd := 0) (Ctr.pays (len := 3) (Wd := 0) (c_pr l Z a0 hw hEL FR FL (hr 0 (by decide)) (hr 3 (by decide)) (hl 0 (by decide)) (hl 3 (by decide)) (by rw [ofNat_inj (by omega) (by omega)]; exact (I4_ 0 3 (by decide) (by decide)).symm)) w953 (wd hw 52 rfl) (wd hw 30 rfl) hEL (by decide) (by decide) sfNil) pd8 rfl (st := []) rfl rfl (Nat.le_of_eq rfl) (dc.g 168 rfl) (by decide) (by decide) ?_
  intro vm957 T958 h959 v960 w961 C962 Q963
  obtain ⟨eQ963, rfl⟩ := Q963
  subst eQ963
  show Go κ _ T958 279 #[.val (.int p0), .val (.int p1), .val (.int p2), .val (.int p3), .val (.int p4), .val (.ref x141), .val (.ref x158), .val (.ref x258), .val (.int (Int32.ofNat kk)), .val (.int (1 : Int32))] [(.int (1 : Int32))]
  refine zEq (pc' := 370) w961.ok (dc.g 169 rfl) (by decide) (by decide) (fun hc964 => absurd hc964 (by decide)) (fun hc964 => ?_)
  show Go κ _ T958 282 #[.val (.int p0), .val (.int p1), .val (.int p2), .val (.int p3), .val (.int p4), .val (.ref x141), .val (.ref x158), .val (.ref x258), .val (.int (Int32.ofNat kk)), .val (.int (1 : Int32))] []
  refine blk (pc' := 288) (Ls' := #[.val (.int p0), .val (.int p1), .val (.int p2), .val (.int p3), .val (.int p4), .val (.ref x141), .val (.ref x158), .val (.ref x258), .val (.int (Int32.ofNat kk)), .val (.int (1 : Int32))]) (st' := [(.int (4 : Int32)), (.int (0 : Int32)), (.ref x158), (.ref x258)]) [oAload w961.ok (dc.g 170 rfl), oAload w961.ok (dc.g 171 rfl), oIconst w961.ok (dc.g 172 rfl), oIconst w961.ok (dc.g 173 rfl)] rfl ?_
  show Go κ _ T958 288 #[.val (.int p0), .val (.int p1), .val (.int p2), .val (.int p3), .val (.int p4), .val (.ref x141), .val (.ref x158), .val (.ref x258), .val (.int (Int32.ofNat kk)), .val (.int (1 : Int32))] [(.int (Int32.ofNat 4)), (.int (Int32.ofNat 0)), (.ref x158), (.ref x258)]
  refine w961.callS (wd hw 50 rfl) (wd hw 51 rfl) (wd hw 30 rfl) (wd hw 52 rfl) (by decide) (argsL := [(.ref x258), (.ref x158), (.int (Int32.ofNat 0)), (.int (Int32.ofNat 4))]) (Wd := 0) (Ctr.pays (len := 3) (Wd := 0) (c_pr l Z a0 hw hEL FR FL (hr 0 (by decide)) (hr 4 (by decide)) (hl 0 (by decide)) (hl 4 (by decide)) (by rw [ofNat_inj (by omega) (by omega)]; exact (I4_ 0 4 (by decide) (by decide)).symm)) w961 (wd hw 52 rfl) (wd hw 30 rfl) hEL (by decide) (by decide) sfNil) pd8 rfl (st := []) rfl rfl (Nat.le_of_eq rfl) (dc.g 174 rfl) (by decide) (by decide) ?_
  intro vm965 T966 h967 v968 w969 C970 Q971
  obtain ⟨eQ971, rfl⟩ := Q971
  subst eQ971
  show Go κ _ T966 291 #[.val (.int p0), .val (.int p1), .val (.int p2), .val (.int p3), .val (.int p4), .val (.ref x141), .val (.ref x158), .val (.ref x258), .val (.int (Int32.ofNat kk)), .val (.int (1 : Int32))] [(.int (1 : Int32))]
  refine zEq (pc' := 370) w969.ok (dc.g 175 rfl) (by decide) (by decide) (fun hc972 => absurd hc972 (by decide)) (fun hc972 => ?_)
  show Go κ _ T966 294 #[.val (.int p0), .val (.int p1), .val (.int p2), .val (.int p3), .val (.int p4), .val (.ref x141), .val (.ref x158), .val (.ref x258), .val (.int (Int32.ofNat kk)), .val (.int (1 : Int32))] []
  refine blk (pc' := 300) (Ls' := #[.val (.int p0), .val (.int p1), .val (.int p2), .val (.int p3), .val (.int p4), .val (.ref x141), .val (.ref x158), .val (.ref x258), .val (.int (Int32.ofNat kk)), .val (.int (1 : Int32))]) (st' := [(.int (2 : Int32)), (.int (1 : Int32)), (.ref x158), (.ref x258)]) [oAload w969.ok (dc.g 176 rfl), oAload w969.ok (dc.g 177 rfl), oIconst w969.ok (dc.g 178 rfl), oIconst w969.ok (dc.g 179 rfl)] rfl ?_
  show Go κ _ T966 300 #[.val (.int p0), .val (.int p1), .val (.int p2), .val (.int p3), .val (.int p4), .val (.ref x141), .val (.ref x158), .val (.ref x258), .val (.int (Int32.ofNat kk)), .val (.int (1 : Int32))] [(.int (Int32.ofNat 2)), (.int (Int32.ofNat 1)), (.ref x158), (.ref x258)]
  refine w969.callS (wd hw 50 rfl) (wd hw 51 rfl) (wd hw 30 rfl) (wd hw 52 rfl) (by decide) (argsL := [(.ref x258), (.ref x158), (.int (Int32.ofNat 1)), (.int (Int32.ofNat 2))]) (Wd := 0) (Ctr.pays (len := 3) (Wd := 0) (c_pr l Z a0 hw hEL FR FL (hr 1 (by decide)) (hr 2 (by decide)) (hl 1 (by decide)) (hl 2 (by decide)) (by rw [ofNat_inj (by omega) (by omega)]; exact (I4_ 1 2 (by decide) (by decide)).symm)) w969 (wd hw 52 rfl) (wd hw 30 rfl) hEL (by decide) (by decide) sfNil) pd8 rfl (st := []) rfl rfl (Nat.le_of_eq rfl) (dc.g 180 rfl) (by decide) (by decide) ?_
  intro vm973 T974 h975 v976 w977 C978 Q979
  obtain ⟨eQ979, rfl⟩ := Q979
  subst eQ979
  show Go κ _ T974 303 #[.val (.int p0), .val (.int p1), .val (.int p2), .val (.int p3), .val (.int p4), .val (.ref x141), .val (.ref x158), .val (.ref x258), .val (.int (Int32.ofNat kk)), .val (.int (1 : Int32))] [(.int (1 : Int32))]
  refine zEq (pc' := 370) w977.ok (dc.g 181 rfl) (by decide) (by decide) (fun hc980 => absurd hc980 (by decide)) (fun hc980 => ?_)
  show Go κ _ T974 306 #[.val (.int p0), .val (.int p1), .val (.int p2), .val (.int p3), .val (.int p4), .val (.ref x141), .val (.ref x158), .val (.ref x258), .val (.int (Int32.ofNat kk)), .val (.int (1 : Int32))] []
  refine blk (pc' := 312) (Ls' := #[.val (.int p0), .val (.int p1), .val (.int p2), .val (.int p3), .val (.int p4), .val (.ref x141), .val (.ref x158), .val (.ref x258), .val (.int (Int32.ofNat kk)), .val (.int (1 : Int32))]) (st' := [(.int (3 : Int32)), (.int (1 : Int32)), (.ref x158), (.ref x258)]) [oAload w977.ok (dc.g 182 rfl), oAload w977.ok (dc.g 183 rfl), oIconst w977.ok (dc.g 184 rfl), oIconst w977.ok (dc.g 185 rfl)] rfl ?_
  show Go κ _ T974 312 #[.val (.int p0), .val (.int p1), .val (.int p2), .val (.int p3), .val (.int p4), .val (.ref x141), .val (.ref x158), .val (.ref x258), .val (.int (Int32.ofNat kk)), .val (.int (1 : Int32))] [(.int (Int32.ofNat 3)), (.int (Int32.ofNat 1)), (.ref x158), (.ref x258)]
  refine w977.callS (wd hw 50 rfl) (wd hw 51 rfl) (wd hw 30 rfl) (wd hw 52 rfl) (by decide) (argsL := [(.ref x258), (.ref x158), (.int (Int32.ofNat 1)), (.int (Int32.ofNat 3))]) (Wd := 0) (Ctr.pays (len := 3) (Wd := 0) (c_pr l Z a0 hw hEL FR FL (hr 1 (by decide)) (hr 3 (by decide)) (hl 1 (by decide)) (hl 3 (by decide)) (by rw [ofNat_inj (by omega) (by omega)]; exact (I4_ 1 3 (by decide) (by decide)).symm)) w977 (wd hw 52 rfl) (wd hw 30 rfl) hEL (by decide) (by decide) sfNil) pd8 rfl (st := []) rfl rfl (Nat.le_of_eq rfl) (dc.g 186 rfl) (by decide) (by decide) ?_
  intro vm981 T982 h983 v984 w985 C986 Q987
  obtain ⟨eQ987, rfl⟩ := Q987
  subst eQ987
  show Go κ _ T982 315 #[.val (.int p0), .val (.int p1), .val (.int p2), .val (.int p3), .val (.int p4), .val (.ref x141), .val (.ref x158), .val (.ref x258), .val (.int (Int32.ofNat kk)), .val (.int (1 : Int32))] [(.int (1 : Int32))]
  refine zEq (pc' := 370) w985.ok (dc.g 187 rfl) (by decide) (by decide) (fun hc988 => absurd hc988 (by decide)) (fun hc988 => ?_)
  show Go κ _ T982 318 #[.val (.int p0), .val (.int p1), .val (.int p2), .val (.int p3), .val (.int p4), .val (.ref x141), .val (.ref x158), .val (.ref x258), .val (.int (Int32.ofNat kk)), .val (.int (1 : Int32))] []
  refine blk (pc' := 324) (Ls' := #[.val (.int p0), .val (.int p1), .val (.int p2), .val (.int p3), .val (.int p4), .val (.ref x141), .val (.ref x158), .val (.ref x258), .val (.int (Int32.ofNat kk)), .val (.int (1 : Int32))]) (st' := [(.int (4 : Int32)), (.int (1 : Int32)), (.ref x158), (.ref x258)]) [oAload w985.ok (dc.g 188 rfl), oAload w985.ok (dc.g 189 rfl), oIconst w985.ok (dc.g 190 rfl), oIconst w985.ok (dc.g 191 rfl)] rfl ?_
  show Go κ _ T982 324 #[.val (.int p0), .val (.int p1), .val (.int p2), .val (.int p3), .val (.int p4), .val (.ref x141), .val (.ref x158), .val (.ref x258), .val (.int (Int32.ofNat kk)), .val (.int (1 : Int32))] [(.int (Int32.ofNat 4)), (.int (Int32.ofNat 1)), (.ref x158), (.ref x258)]
  refine w985.callS (wd hw 50 rfl) (wd hw 51 rfl) (wd hw 30 rfl) (wd hw 52 rfl) (by decide) (argsL := [(.ref x258), (.ref x158), (.int (Int32.ofNat 1)), (.int (Int32.ofNat 4))]) (Wd := 0) (Ctr.pays (len := 3) (Wd := 0) (c_pr l Z a0 hw hEL FR FL (hr 1 (by decide)) (hr 4 (by decide)) (hl 1 (by decide)) (hl 4 (by decide)) (by rw [ofNat_inj (by omega) (by omega)]; exact (I4_ 1 4 (by decide) (by decide)).symm)) w985 (wd hw 52 rfl) (wd hw 30 rfl) hEL (by decide) (by decide) sfNil) pd8 rfl (st := []) rfl rfl (Nat.le_of_eq rfl) (dc.g 192 rfl) (by decide) (by decide) ?_
  intro vm989 T990 h991 v992 w993 C994 Q995
  obtain ⟨eQ995, rfl⟩ := Q995
  subst eQ995
  show Go κ _ T990 327 #[.val (.int p0), .val (.int p1), .val (.int p2), .val (.int p3), .val (.int p4), .val (.ref x141), .val (.ref x158), .val (.ref x258), .val (.int (Int32.ofNat kk)), .val (.int (1 : Int32))] [(.int (1 : Int32))]
  refine zEq (pc' := 370) w993.ok (dc.g 193 rfl) (by decide) (by decide) (fun hc996 => absurd hc996 (by decide)) (fun hc996 => ?_)
  show Go κ _ T990 330 #[.val (.int p0), .val (.int p1), .val (.int p2), .val (.int p3), .val (.int p4), .val (.ref x141), .val (.ref x158), .val (.ref x258), .val (.int (Int32.ofNat kk)), .val (.int (1 : Int32))] []
  refine blk (pc' := 336) (Ls' := #[.val (.int p0), .val (.int p1), .val (.int p2), .val (.int p3), .val (.int p4), .val (.ref x141), .val (.ref x158), .val (.ref x258), .val (.int (Int32.ofNat kk)), .val (.int (1 : Int32))]) (st' := [(.int (3 : Int32)), (.int (2 : Int32)), (.ref x158), (.ref x258)]) [oAload w993.ok (dc.g 194 rfl), oAload w993.ok (dc.g 195 rfl), oIconst w993.ok (dc.g 196 rfl), oIconst w993.ok (dc.g 197 rfl)] rfl ?_
  show Go κ _ T990 336 #[.val (.int p0), .val (.int p1), .val (.int p2), .val (.int p3), .val (.int p4), .val (.ref x141), .val (.ref x158), .val (.ref x258), .val (.int (Int32.ofNat kk)), .val (.int (1 : Int32))] [(.int (Int32.ofNat 3)), (.int (Int32.ofNat 2)), (.ref x158), (.ref x258)]
  refine w993.callS (wd hw 50 rfl) (wd hw 51 rfl) (wd hw 30 rfl) (wd hw 52 rfl) (by decide) (argsL := [(.ref x258), (.ref x158), (.int (Int32.ofNat 2)), (.int (Int32.ofNat 3))]) (Wd := 0) (Ctr.pays (len := 3) (Wd := 0) (c_pr l Z a0 hw hEL FR FL (hr 2 (by decide)) (hr 3 (by decide)) (hl 2 (by decide)) (hl 3 (by decide)) (by rw [ofNat_inj (by omega) (by omega)]; exact (I4_ 2 3 (by decide) (by decide)).symm)) w993 (wd hw 52 rfl) (wd hw 30 rfl) hEL (by decide) (by decide) sfNil) pd8 rfl (st := []) rfl rfl (Nat.le_of_eq rfl) (dc.g 198 rfl) (by decide) (by decide) ?_
  intro vm997 T998 h999 v1000 w1001 C1002 Q1003
  obtain ⟨eQ1003, rfl⟩ := Q1003
  subst eQ1003
  show Go κ _ T998 339 #[.val (.int p0), .val (.int p1), .val (.int p2), .val (.int p3), .val (.int p4), .val (.ref x141), .val (.ref x158), .val (.ref x258), .val (.int (Int32.ofNat kk)), .val (.int (1 : Int32))] [(.int (1 : Int32))]
  refine zEq (pc' := 370) w1001.ok (dc.g 199 rfl) (by decide) (by decide) (fun hc1004 => absurd hc1004 (by decide)) (fun hc1004 => ?_)
  show Go κ _ T998 342 #[.val (.int p0), .val (.int p1), .val (.int p2), .val (.int p3), .val (.int p4), .val (.ref x141), .val (.ref x158), .val (.ref x258), .val (.int (Int32.ofNat kk)), .val (.int (1 : Int32))] []
  refine blk (pc' := 348) (Ls' := #[.val (.int p0), .val (.int p1), .val (.int p2), .val (.int p3), .val (.int p4), .val (.ref x141), .val (.ref x158), .val (.ref x258), .val (.int (Int32.ofNat kk)), .val (.int (1 : Int32))]) (st' := [(.int (4 : Int32)), (.int (2 : Int32)), (.ref x158), (.ref x258)]) [oAload w1001.ok (dc.g 200 rfl), oAload w1001.ok (dc.g 201 rfl), oIconst w1001.ok (dc.g 202 rfl), oIconst w1001.ok (dc.g 203 rfl)] rfl ?_
  show Go κ _ T998 348 #[.val (.int p0), .val (.int p1), .val (.int p2), .val (.int p3), .val (.int p4), .val (.ref x141), .val (.ref x158), .val (.ref x258), .val (.int (Int32.ofNat kk)), .val (.int (1 : Int32))] [(.int (Int32.ofNat 4)), (.int (Int32.ofNat 2)), (.ref x158), (.ref x258)]
  refine w1001.callS (wd hw 50 rfl) (wd hw 51 rfl) (wd hw 30 rfl) (wd hw 52 rfl) (by decide) (argsL := [(.ref x258), (.ref x158), (.int (Int32.ofNat 2)), (.int (Int32.ofNat 4))]) (Wd := 0) (Ctr.pays (len := 3) (Wd := 0) (c_pr l Z a0 hw hEL FR FL (hr 2 (by decide)) (hr 4 (by decide)) (hl 2 (by decide)) (hl 4 (by decide)) (by rw [ofNat_inj (by omega) (by omega)]; exact (I4_ 2 4 (by decide) (by decide)).symm)) w1001 (wd hw 52 rfl) (wd hw 30 rfl) hEL (by decide) (by decide) sfNil) pd8 rfl (st := []) rfl rfl (Nat.le_of_eq rfl) (dc.g 204 rfl) (by decide) (by decide) ?_
  intro vm1005 T1006 h1007 v1008 w1009 C1010 Q1011
  obtain ⟨eQ1011, rfl⟩ := Q1011
  subst eQ1011
  show Go κ _ T1006 351 #[.val (.int p0), .val (.int p1), .val (.int p2), .val (.int p3), .val (.int p4), .val (.ref x141), .val (.ref x158), .val (.ref x258), .val (.int (Int32.ofNat kk)), .val (.int (1 : Int32))] [(.int (1 : Int32))]
  refine zEq (pc' := 370) w1009.ok (dc.g 205 rfl) (by decide) (by decide) (fun hc1012 => absurd hc1012 (by decide)) (fun hc1012 => ?_)
  show Go κ _ T1006 354 #[.val (.int p0), .val (.int p1), .val (.int p2), .val (.int p3), .val (.int p4), .val (.ref x141), .val (.ref x158), .val (.ref x258), .val (.int (Int32.ofNat kk)), .val (.int (1 : Int32))] []
  refine blk (pc' := 360) (Ls' := #[.val (.int p0), .val (.int p1), .val (.int p2), .val (.int p3), .val (.int p4), .val (.ref x141), .val (.ref x158), .val (.ref x258), .val (.int (Int32.ofNat kk)), .val (.int (1 : Int32))]) (st' := [(.int (4 : Int32)), (.int (3 : Int32)), (.ref x158), (.ref x258)]) [oAload w1009.ok (dc.g 206 rfl), oAload w1009.ok (dc.g 207 rfl), oIconst w1009.ok (dc.g 208 rfl), oIconst w1009.ok (dc.g 209 rfl)] rfl ?_
  show Go κ _ T1006 360 #[.val (.int p0), .val (.int p1), .val (.int p2), .val (.int p3), .val (.int p4), .val (.ref x141), .val (.ref x158), .val (.ref x258), .val (.int (Int32.ofNat kk)), .val (.int (1 : Int32))] [(.int (Int32.ofNat 4)), (.int (Int32.ofNat 3)), (.ref x158), (.ref x258)]
  refine w1009.callS (wd hw 50 rfl) (wd hw 51 rfl) (wd hw 30 rfl) (wd hw 52 rfl) (by decide) (argsL := [(.ref x258), (.ref x158), (.int (Int32.ofNat 3)), (.int (Int32.ofNat 4))]) (Wd := 0) (Ctr.pays (len := 3) (Wd := 0) (c_pr l Z a0 hw hEL FR FL (hr 3 (by decide)) (hr 4 (by decide)) (hl 3 (by decide)) (hl 4 (by decide)) (by rw [ofNat_inj (by omega) (by omega)]; exact (I4_ 3 4 (by decide) (by decide)).symm)) w1009 (wd hw 52 rfl) (wd hw 30 rfl) hEL (by decide) (by decide) sfNil) pd8 rfl (st := []) rfl rfl (Nat.le_of_eq rfl) (dc.g 210 rfl) (by decide) (by decide) ?_
  intro vm1013 T1014 h1015 v1016 w1017 C1018 Q1019
  obtain ⟨eQ1019, rfl⟩ := Q1019
  subst eQ1019
  show Go κ _ T1014 363 #[.val (.int p0), .val (.int p1), .val (.int p2), .val (.int p3), .val (.int p4), .val (.ref x141), .val (.ref x158), .val (.ref x258), .val (.int (Int32.ofNat kk)), .val (.int (1 : Int32))] [(.int (1 : Int32))]
  refine zEq (pc' := 370) w1017.ok (dc.g 211 rfl) (by decide) (by decide) (fun hc1020 => absurd hc1020 (by decide)) (fun hc1020 => ?_)
  show Go κ _ T1014 366 #[.val (.int p0), .val (.int p1), .val (.int p2), .val (.int p3), .val (.int p4), .val (.ref x141), .val (.ref x158), .val (.ref x258), .val (.int (Int32.ofNat kk)), .val (.int (1 : Int32))] []
  refine blk (pc' := 371) (Ls' := #[.val (.int p0), .val (.int p1), .val (.int p2), .val (.int p3), .val (.int p4), .val (.ref x141), .val (.ref x158), .val (.ref x258), .val (.int (Int32.ofNat kk)), .val (.int (1 : Int32))]) (st' := [(.int (1 : Int32))]) [oIconst w1017.ok (dc.g 212 rfl), oGoto w1017.ok 371 (dc.g 213 rfl)] rfl ?_
  exact w1017.retI (t := .boolean) rfl (Or.inr (Or.inl rfl)) rfl (dc.g 215 rfl) (by decide) (by decide) (fun S hS => rfl)
set_option maxRecDepth 65536 in
set_option maxHeartbeats 4000000 in
theorem comes_1 {Post : Tables → Env → Array Value → State → Outcome → State → Prop} (hpost : ∀ tb e args s v u, (limb_1_1.after args s (.returned v) u = true ∧ limb_1_2.after args s (.returned v) u = true ∧ True) → ReturnedEndW s (.returned v) u (Jvm.fieldLocs frame_1_writes args s ++ Jvm.arrayLocs frame_1_arrays args s ++ Jvm.staticLocs frame_1_statics s) 16 128 → Post tb e args s (.returned v) u) :
    ArmFor flags0 classFile x code maxLocals ret World_1 tables_1 room_1 Calls_1 rest_1 Pre_1 Post := by
  intro l hfl _ _ p e ha hc hk s m args below hf hA hF happ hP
  obtain ⟨hcalls, hrest, hpre⟩ := hP
  obtain ⟨-, -, -, hnamed, -, -, -, hat⟩ := (Spec.applies_iff hf).mp happ
  obtain ⟨hg, hn⟩ := and_e (Cond.before_iff.mp (show (Jvm.Cond.and given_1 narrow_1).before args s = true from hpre))
  obtain ⟨hct, q0⟩ := and_e hg
  obtain ⟨g0, q1⟩ := and_e q0
  obtain ⟨g1, q2⟩ := and_e q1
  obtain ⟨g2, q3⟩ := and_e q2
  obtain ⟨g3, q4⟩ := and_e q3
  have g4 := q4
  obtain ⟨w0, w1, w2, w3, w4, rfl⟩ : ∃ w0 w1 w2 w3 w4 : Value, args = #[w0, w1, w2, w3, w4] := by
    have hs : args.size = 5 := by simpa [Cond.value, given_1] using hct
    obtain ⟨L⟩ := args
    match L, hs with
    | [w0, w1, w2, w3, w4], _ => exact ⟨w0, w1, w2, w3, w4, rfl⟩
  obtain ⟨i0, e0⟩ := is_v g0
  obtain rfl : w0 = (.int i0) := Option.some.inj e0
  obtain ⟨i1, e1⟩ := is_v g1
  obtain rfl : w1 = (.int i1) := Option.some.inj e1
  obtain ⟨i2, e2⟩ := is_v g2
  obtain rfl : w2 = (.int i2) := Option.some.inj e2
  obtain ⟨i3, e3⟩ := is_v g3
  obtain rfl : w3 = (.int i3) := Option.some.inj e3
  obtain ⟨i4, e4⟩ := is_v g4
  obtain rfl : w4 = (.int i4) := Option.some.inj e4
  have hw := fun d (hd : d ∈ tables_1) => atoms_spec (ws := Jvm.Cond.code x code maxLocals ret :: tables_1) hat d (List.mem_cons_of_mem _ hd)

  have hfit : Fit s := fun {y c} hc i hi => by
    obtain ⟨ha, rfl⟩ := Array.getElem?_eq_some_iff.mp hc
    have q := List.all_eq_true.mp ((Array.all_eq_true_iff_forall_mem.mp hF) _ (Array.getElem_mem ha)) i (List.mem_range.mpr hi)
    simpa [Array.getElem?_eq_getElem hi] using q
  obtain ⟨n, o, h1, h2, h3, _, L, rfl, ⟨rfl, N⟩, hNw, hq⟩ := c_law l s _ hw EW.nil s.heap ⟨Nat.le_refl _, fun _ _ q => q⟩ tables_1 p e ha hc hk s m _ below hf ((Spec.applies_iff_loose hf).mp happ).1 ⟨rfl, State.Warmed39.refl s, rfl, ⟨(fun _ h => nomatch h), Nw.refl _⟩, fun _ h => nomatch h⟩ trivial
  refine ⟨n, _, h1, h2, h3, hpost _ _ _ _ _ _ ⟨Cond.after_iff.mpr rfl, Cond.after_iff.mpr (eq_i res_at (Term.int_eval (1)) rfl), trivial⟩ ⟨hq.1, hq.2.1, hq.2.2.1, (hq.2.2.2.sift fun y hy => Or.inr (N y hy)).mono (by decide) (by decide)⟩⟩
theorem main_1_1 : Claimed_1_1 := comes_1 fun _ _ _ _ _ _ h hF => ⟨h.1, hF⟩
theorem main_1_2 : Claimed_1_2 := comes_1 fun _ _ _ _ _ _ h hF => ⟨h.2.1, hF⟩
end Jvm.Pilot.@@N@@
namespace Jvm.Pilot.@@N@@
open Jvm Jvm.ClassFile Sem Op Lib Jvm.Free Jvm.Stand Jvm.Pilot.@@N@@.Jvm.D
/-! MADE BY PROGRAM (witnessworld.py) out of the Statement's table words and the real class files: 13 classes; the members and pool entries that the words name. The judged class is class 1, her method 1. -/
namespace start1
open Jvm.ClassFile
def u (s : String) : CpInfo := .utf8 (stringToUtf16 s)
/-- a pool by its gaps: so many unusable entries, then the entry; so many at the end -/
def gap : Nat → List CpInfo → List CpInfo
  | 0, r => r
  | n + 1, r => .unusable :: gap n r
def poolList (es : List (Nat × CpInfo)) (last : Nat) : List CpInfo := es.foldr (fun e r => gap e.1 (e.2 :: r)) (gap last [])
def pool (es : List (Nat × CpInfo)) (last : Nat) : Array CpInfo := ⟨poolList es last⟩
def fileOf (pool : Array CpInfo) (this : Nat) (attrs : Array Attribute := #[]) (ms : Array MethodInfo := #[]) (fl : Nat := 33) (sup : Nat := 0) (ifs : Array Nat := #[]) (fds : Array FieldInfo := #[]) : ClassFile where
  minorVersion := 0
  majorVersion := 65
  constantPool := pool
  accessFlags := fl
  thisClass := this
  superClass := sup
  interfaces := ifs
  fields := fds
  methods := ms
  attributes := attrs
def plain (name : String) (sup : Option ClassId) : Class where
  name := name
  kind := .ordinary
  loader := none
  accessFlags := 33
  super := sup
  interfaces := #[]
  cf := none
  fields := #[]
  methods := #[]
  instanceTypes := #[]
  staticTypes := #[]
  resolved := #[]
  callSites := []
  init := .initialized
  statics := none
  mirror := none

def pool0 : Array CpInfo := pool [(5, u "<init>"), (0, u "()V"), (1, .class_ 10), (1, u "java/lang/Object")] 113

def k0c0 : Code := { maxStack := 0, maxLocals := 1, code := object_method_1_code, exceptionTable := #[], attributes := #[] }
def k0m0 : Method := { name := "<init>", desc := "()V", sig := { parameters := [], returnType := none }, accessFlags := 1, code := some k0c0 }
/-- java/lang/Object -/
def k0 : Class := { plain "java/lang/Object" none with
  accessFlags := 33
  interfaces := #[]
  cf := some (fileOf pool0 8 #[] #[{ accessFlags := 1, nameIndex := 5, descriptorIndex := 6, attributes := #[] }] 33 0 #[] #[])
  fields := #[]
  methods := #[k0m0]
  instanceTypes := #[]
  staticTypes := #[]
  resolved := Array.replicate 124 none
  statics := none }

def pool1 : Array CpInfo := pool [(2, .class_ 4), (1, u "java/lang/Object"), (0, u "<init>"), (0, u "()V"), (0, .class_ 8), (0, u "com/example/isomark/isomark/DisjointSets"), (0, .methodref 7 10), (0, .nameAndType 5 11), (0, u "(I)V"), (0, .methodref 13 14), (0, .class_ 15), (0, .nameAndType 16 17), (0, u "com/example/isomark/isomark/DisjointSetsRootPinLaw"), (0, u "step"), (0, u "(Lcom/example/isomark/isomark/DisjointSets;[II)V"), (0, .integer 2147483647), (0, .methodref 7 20), (0, .nameAndType 21 22), (0, u "root"), (0, u "(I)I"), (0, .methodref 13 24), (0, .nameAndType 25 26), (0, u "member"), (0, u "([I[II)Z"), (0, .methodref 13 28), (0, .nameAndType 29 30), (0, u "pair"), (0, u "([I[III)Z"), (0, .methodref 7 32), (0, .nameAndType 33 34), (0, u "join"), (0, u "(II)V"), (0, .methodref 13 36), (0, .nameAndType 37 38), (0, u "relabel"), (0, u "([III)V"), (2, u "law"), (0, u "(IIIII)Z")] 5

def k1m0 : Method := { name := "<init>", desc := "()V", sig := { parameters := [], returnType := none }, accessFlags := 1, code := none }
def k1c1 : Code := { maxStack := 5, maxLocals := 10, code := code, exceptionTable := #[], attributes := #[] }
def k1m1 : Method := { name := "law", desc := "(IIIII)Z", sig := { parameters := [.int, .int, .int, .int, .int], returnType := some .boolean }, accessFlags := 9, code := some k1c1 }
def k1c2 : Code := { maxStack := 4, maxLocals := 5, code := method_3_code, exceptionTable := #[], attributes := #[] }
def k1m2 : Method := { name := "step", desc := "(Lcom/example/isomark/isomark/DisjointSets;[II)V", sig := { parameters := [(.object "com/example/isomark/isomark/DisjointSets"), (.array .int), .int], returnType := none }, accessFlags := 10, code := some k1c2 }
def k1c3 : Code := { maxStack := 3, maxLocals := 3, code := method_4_code, exceptionTable := #[], attributes := #[] }
def k1m3 : Method := { name := "relabel", desc := "([III)V", sig := { parameters := [(.array .int), .int, .int], returnType := none }, accessFlags := 10, code := some k1c3 }
def k1c4 : Code := { maxStack := 3, maxLocals := 4, code := method_5_code, exceptionTable := #[], attributes := #[] }
def k1m4 : Method := { name := "member", desc := "([I[II)Z", sig := { parameters := [(.array .int), (.array .int), .int], returnType := some .boolean }, accessFlags := 10, code := some k1c4 }
def k1c5 : Code := { maxStack := 4, maxLocals := 4, code := method_6_code, exceptionTable := #[], attributes := #[] }
def k1m5 : Method := { name := "pair", desc := "([I[III)Z", sig := { parameters := [(.array .int), (.array .int), .int, .int], returnType := some .boolean }, accessFlags := 10, code := some k1c5 }
/-- com/example/isomark/isomark/DisjointSetsRootPinLaw -/
def k1 : Class := { plain "com/example/isomark/isomark/DisjointSetsRootPinLaw" (some 0) with
  accessFlags := 49
  interfaces := #[]
  cf := some (fileOf pool1 13 #[] #[{ accessFlags := 1, nameIndex := 5, descriptorIndex := 6, attributes := #[] }, { accessFlags := 9, nameIndex := 41, descriptorIndex := 42, attributes := #[] }, { accessFlags := 10, nameIndex := 16, descriptorIndex := 17, attributes := #[] }, { accessFlags := 10, nameIndex := 37, descriptorIndex := 38, attributes := #[] }, { accessFlags := 10, nameIndex := 25, descriptorIndex := 26, attributes := #[] }, { accessFlags := 10, nameIndex := 29, descriptorIndex := 30, attributes := #[] }] 49 2 #[] #[])
  fields := #[]
  methods := #[k1m0, k1m1, k1m2, k1m3, k1m4, k1m5]
  instanceTypes := #[]
  staticTypes := #[]
  resolved := Array.replicate 48 none
  statics := none }

def pool2 : Array CpInfo := pool [(1, .methodref 2 3), (0, .class_ 4), (0, .nameAndType 5 6), (0, u "java/lang/Object"), (0, u "<init>"), (0, u "()V"), (0, .fieldref 8 9), (0, .class_ 10), (0, .nameAndType 11 12), (0, u "com/example/isomark/isomark/DisjointSets"), (0, u "parent"), (0, u "[I"), (0, .invokeDynamic 0 14), (0, .nameAndType 15 16), (0, u "applyAsInt"), (0, u "()Ljava/util/function/IntUnaryOperator;"), (0, .methodref 18 19), (0, .class_ 20), (0, .nameAndType 21 22), (0, u "java/util/Arrays"), (0, u "setAll"), (0, u "([ILjava/util/function/IntUnaryOperator;)V"), (0, .methodref 8 24), (0, .nameAndType 25 26), (0, u "root"), (0, u "(I)I"), (0, u "(I)V"), (3, u "join"), (0, u "(II)V"), (0, u "lambda$new$0"), (3, .methodType 26), (0, .methodHandle 6 39), (0, .methodref 8 40), (0, .nameAndType 33 26), (0, .methodHandle 6 42), (0, .methodref 43 44), (0, .class_ 45), (0, .nameAndType 46 47), (0, u "java/lang/invoke/LambdaMetafactory"), (0, u "metafactory"), (0, u "(Ljava/lang/invoke/MethodHandles$Lookup;Ljava/lang/String;Ljava/lang/invoke/MethodType;Ljava/lang/invoke/MethodType;Ljava/lang/invoke/MethodHandle;Ljava/lang/invoke/MethodType;)Ljava/lang/invoke/CallSite;")] 6

def k2c0 : Code := { maxStack := 2, maxLocals := 2, code := prog_32_method_1_code, exceptionTable := #[], attributes := #[] }
def k2m0 : Method := { name := "<init>", desc := "(I)V", sig := { parameters := [.int], returnType := none }, accessFlags := 0, code := some k2c0 }
def k2c1 : Code := { maxStack := 3, maxLocals := 4, code := prog_32_method_2_code, exceptionTable := #[], attributes := #[] }
def k2m1 : Method := { name := "root", desc := "(I)I", sig := { parameters := [.int], returnType := some .int }, accessFlags := 0, code := some k2c1 }
def k2c2 : Code := { maxStack := 4, maxLocals := 3, code := prog_32_method_3_code, exceptionTable := #[], attributes := #[] }
def k2m2 : Method := { name := "join", desc := "(II)V", sig := { parameters := [.int, .int], returnType := none }, accessFlags := 0, code := some k2c2 }
def k2c3 : Code := { maxStack := 1, maxLocals := 1, code := prog_32_method_4_code, exceptionTable := #[], attributes := #[] }
def k2m3 : Method := { name := "lambda$new$0", desc := "(I)I", sig := { parameters := [.int], returnType := some .int }, accessFlags := 4106, code := some k2c3 }
/-- com/example/isomark/isomark/DisjointSets -/
def k2 : Class := { plain "com/example/isomark/isomark/DisjointSets" (some 0) with
  accessFlags := 48
  interfaces := #[]
  cf := some (fileOf pool2 8 #[.bootstrapMethods #[⟨41, #[37, 38, 37]⟩]] #[{ accessFlags := 0, nameIndex := 5, descriptorIndex := 27, attributes := #[] }, { accessFlags := 0, nameIndex := 25, descriptorIndex := 26, attributes := #[] }, { accessFlags := 0, nameIndex := 31, descriptorIndex := 32, attributes := #[] }, { accessFlags := 4106, nameIndex := 33, descriptorIndex := 26, attributes := #[] }] 48 2 #[] #[{ accessFlags := 18, nameIndex := 11, descriptorIndex := 12, attributes := #[] }])
  fields := #[{ name := "parent", type := (.array .int), accessFlags := 18, slot := 0, constantValue := 0 }]
  methods := #[k2m0, k2m1, k2m2, k2m3]
  instanceTypes := #[(.array .int)]
  staticTypes := #[]
  resolved := Array.replicate 54 none
  callSites := [(0, 15, .constant 0)]
  statics := none }

def pool3 : Array CpInfo := pool [(9, u "applyAsInt"), (6, .class_ 18), (1, u "java/util/function/IntUnaryOperator"), (0, u "(I)I"), (0, .class_ 21), (0, u "java/lang/Object")] 46

def k3m0 : Method := { name := "applyAsInt", desc := "(I)I", sig := { parameters := [.int], returnType := some .int }, accessFlags := 1025, code := none }
/-- java/util/function/IntUnaryOperator -/
def k3 : Class := { plain "java/util/function/IntUnaryOperator" (some 0) with
  accessFlags := 1537
  interfaces := #[]
  cf := some (fileOf pool3 16 #[] #[{ accessFlags := 1025, nameIndex := 9, descriptorIndex := 19, attributes := #[] }] 1537 20 #[] #[])
  fields := #[]
  methods := #[k3m0]
  instanceTypes := #[]
  staticTypes := #[]
  resolved := Array.replicate 68 none
  statics := none }

def pool4 : Array CpInfo := pool [(2, .class_ 4), (1, u "java/lang/Object"), (0, u "<init>"), (0, u "()V"), (7, .class_ 16), (1, u "java/util/Arrays"), (57, .class_ 76), (1, u "java/util/Arrays$NaturalOrder"), (36, .class_ 115), (1, u "java/util/Arrays$LegacyMergeSort"), (1, u "Z"), (57, .methodref 176 177), (0, .class_ 178), (0, .nameAndType 179 180), (0, u "java/util/Objects"), (0, u "requireNonNull"), (0, u "(Ljava/lang/Object;)Ljava/lang/Object;"), (194, .class_ 376), (0, u "java/util/Arrays$ArrayList"), (68, u "$assertionsDisabled"), (136, .interfaceMethodref 583 584), (0, .class_ 585), (0, .nameAndType 586 587), (0, u "java/util/function/IntUnaryOperator"), (0, u "applyAsInt"), (0, u "(I)I"), (127, u "MIN_ARRAY_SORT_GRAN"), (0, u "I"), (2, u "INSERTIONSORT_THRESHOLD"), (187, u "setAll"), (6, u "([ILjava/util/function/IntUnaryOperator;)V"), (60, .class_ 976), (0, u "java/util/Arrays$ArrayItr")] 52

def k4m0 : Method := { name := "<init>", desc := "()V", sig := { parameters := [], returnType := none }, accessFlags := 2, code := none }
def k4c1 : Code := { maxStack := 4, maxLocals := 3, code := jdk_65_method_175_code, exceptionTable := #[], attributes := #[] }
def k4m1 : Method := { name := "setAll", desc := "([ILjava/util/function/IntUnaryOperator;)V", sig := { parameters := [(.array .int), (.object "java/util/function/IntUnaryOperator")], returnType := none }, accessFlags := 9, code := some k4c1 }
/-- java/util/Arrays -/
def k4 : Class := { plain "java/util/Arrays" (some 0) with
  accessFlags := 49
  interfaces := #[]
  cf := some (fileOf pool4 14 #[.nestMembers #[975, 375, 113, 74]] #[{ accessFlags := 2, nameIndex := 5, descriptorIndex := 6, attributes := #[] }, { accessFlags := 9, nameIndex := 907, descriptorIndex := 914, attributes := #[] }] 49 2 #[] #[{ accessFlags := 26, nameIndex := 715, descriptorIndex := 716, attributes := #[] }, { accessFlags := 26, nameIndex := 719, descriptorIndex := 716, attributes := #[] }, { accessFlags := 4120, nameIndex := 445, descriptorIndex := 117, attributes := #[] }])
  fields := #[{ name := "MIN_ARRAY_SORT_GRAN", type := .int, accessFlags := 26, slot := 0, constantValue := 0 }, { name := "INSERTIONSORT_THRESHOLD", type := .int, accessFlags := 26, slot := 1, constantValue := 0 }, { name := "$assertionsDisabled", type := .boolean, accessFlags := 4120, slot := 2, constantValue := 0 }]
  methods := #[k4m0, k4m1]
  instanceTypes := #[]
  staticTypes := #[.int, .int, .boolean]
  resolved := Array.replicate 1029 none
  statics := none }

def pool5 : Array CpInfo := pool [(2, .class_ 4), (1, u "java/lang/Object"), (0, u "<init>"), (0, u "()V"), (35, .class_ 44), (1, u "java/util/Objects"), (0, u "requireNonNull"), (0, u "(Ljava/lang/Object;)Ljava/lang/Object;")] 137

def k5m0 : Method := { name := "<init>", desc := "()V", sig := { parameters := [], returnType := none }, accessFlags := 2, code := none }
def k5c1 : Code := { maxStack := 2, maxLocals := 1, code := jdk_31_method_10_code, exceptionTable := #[], attributes := #[] }
def k5m1 : Method := { name := "requireNonNull", desc := "(Ljava/lang/Object;)Ljava/lang/Object;", sig := { parameters := [(.object "java/lang/Object")], returnType := some (.object "java/lang/Object") }, accessFlags := 9, code := some k5c1 }
/-- java/util/Objects -/
def k5 : Class := { plain "java/util/Objects" (some 0) with
  accessFlags := 49
  interfaces := #[]
  cf := some (fileOf pool5 42 #[] #[{ accessFlags := 2, nameIndex := 5, descriptorIndex := 6, attributes := #[] }, { accessFlags := 9, nameIndex := 45, descriptorIndex := 46, attributes := #[] }] 49 2 #[] #[])
  fields := #[]
  methods := #[k5m0, k5m1]
  instanceTypes := #[]
  staticTypes := #[]
  resolved := Array.replicate 184 none
  statics := none }

def pool6 : Array CpInfo := pool [(1, u "java/lang/Cloneable"), (0, .class_ 1), (0, u "java/lang/Object"), (0, .class_ 3)] 3

/-- java/lang/Cloneable -/
def k6 : Class := { plain "java/lang/Cloneable" (some 0) with
  accessFlags := 1537
  interfaces := #[]
  cf := some (fileOf pool6 2 #[] #[] 1537 4 #[] #[])
  fields := #[]
  methods := #[]
  instanceTypes := #[]
  staticTypes := #[]
  resolved := Array.replicate 8 none
  statics := none }

def pool7 : Array CpInfo := pool [(1, u "java/io/Serializable"), (0, .class_ 1), (0, u "java/lang/Object"), (0, .class_ 3)] 3

/-- java/io/Serializable -/
def k7 : Class := { plain "java/io/Serializable" (some 0) with
  accessFlags := 1537
  interfaces := #[]
  cf := some (fileOf pool7 2 #[] #[] 1537 4 #[] #[])
  fields := #[]
  methods := #[]
  instanceTypes := #[]
  staticTypes := #[]
  resolved := Array.replicate 8 none
  statics := none }

/-- the primitive byte -/
def k8 : Class := { plain "byte" none with kind := .primitive 'B', accessFlags := 0x411 }
/-- [B -/
def k9 : Class := { plain "[B" (some 0) with kind := .array 8 .byte, interfaces := #[6, 7], accessFlags := 1041 }

/-- the primitive int -/
def k10 : Class := { plain "int" none with kind := .primitive 'I', accessFlags := 0x411 }
/-- [I -/
def k11 : Class := { plain "[I" (some 0) with kind := .array 10 .int, interfaces := #[6, 7], accessFlags := 1041 }

def classes0 : Array Class := #[k0, k1, k2, k3, k4, k5, k6, k7, k8, k9, k10, k11]
/-- the class that the rule has made for the site at 15 of com/example/isomark/isomark/DisjointSets.<init> -/
def k12 : Class := Jvm.LamKit.madeRec { classes := classes0 } "com/example/isomark/isomark/DisjointSets" (Jvm.Lambda.Shape.mk "java/util/function/IntUnaryOperator" "applyAsInt" (Jvm.ClassFile.MethodDescriptor.mk ([Jvm.ClassFile.FieldType.int] : List Jvm.ClassFile.FieldType) (Option.some Jvm.ClassFile.FieldType.int)) ([] : List Jvm.ClassFile.FieldType) (6 : Nat) "com/example/isomark/isomark/DisjointSets" "lambda$new$0" (Jvm.ClassFile.MethodDescriptor.mk ([Jvm.ClassFile.FieldType.int] : List Jvm.ClassFile.FieldType) (Option.some Jvm.ClassFile.FieldType.int)) false (Jvm.ClassFile.MethodDescriptor.mk ([Jvm.ClassFile.FieldType.int] : List Jvm.ClassFile.FieldType) (Option.some Jvm.ClassFile.FieldType.int))) 12

def heap : Heap := #[{ cls := 12, slots := #[], vm := .none }]
def classes : Array Class := #[k0, k1, k2, k3, k4, k5, k6, k7, k8, k9, k10, k11, k12]
def interned : List (Array UInt16 × Addr) := []
def slotsUsed : Nat := 0
def theMethod : MethodId := ⟨1, 1⟩
def args0 : Array Value := #[.int 1, .int 2, .int 3, .int 4, .int 5]
def aboutOver (below : List Frame) : State where
  vm := { classes := classes, interned := interned.toArray }
  heap := heap
  slotsUsed := slotsUsed
  threads := #[{ frames := .invoking theMethod args0 :: below }]
def below0 : List Frame := [.native { method := ⟨0, 0⟩, args := #[] }]
def about1 : State := aboutOver below0
def p0 : Program := .bare "" "" ""
def e0 : Env := launch0.env 0 0 0
theorem w_frames : about1.frames = Frame.invoking theMethod args0 :: below0 := rfl
set_option maxRecDepth 65536 in
theorem w_args : argsFit about1.vm theMethod args0 = true := by decide +kernel
set_option maxRecDepth 65536 in
theorem w_heap : heapFits about1 = true := by decide +kernel
set_option maxRecDepth 65536 in
theorem w_runnable : about1.curStatus? = some .runnable := by decide +kernel
set_option maxRecDepth 65536 in
theorem w_alone : about1.alone = true := by decide +kernel
set_option maxRecDepth 65536 in
theorem w_named : about1.methodNamed? x = some theMethod := by decide +kernel
set_option maxRecDepth 65536 in
theorem w_hears : about1.hears theMethod below0 = true := by decide +kernel
set_option maxRecDepth 65536 in
theorem w_ripe : about1.ripe theMethod args0 below0 = true := by decide +kernel
theorem w_running : about1.status = .running := rfl
set_option maxRecDepth 65536 in
theorem w_room : about1.hasRoom e0.platform room_1 = true :=
  launch0.hasRoom_least _ room_1 (by decide +kernel) (by decide +kernel) (by decide +kernel) (by decide +kernel) (by decide +kernel) (by decide +kernel)
theorem allAtoms_all (ts : List Jvm.Cond) (a : Array Jvm.Value) (st : Jvm.State) : (allAtoms ts).before a st = ts.all (fun c => c.before a st) := by
  induction ts with
  | nil => rfl
  | cons c t ih =>
    show (Jvm.Cond.and c (allAtoms t)).before a st = _
    rw [Jvm.Cond.before_and, ih, List.all_cons]
def words1 : List Jvm.Cond := Jvm.Cond.code x code maxLocals ret :: tables_1
/-- a 'code' word, met by the world's own term for the bytes: nothing is compared byte by byte -/
theorem code_word {y : MethodName} {bytes : ByteArray} {mx : Nat} {rt : Option FieldType} {a : Array Value} {s : State} {m : MethodId} {meth : Method} {c : Code} (h1 : s.methodNamed? y = some m) (h2 : s.vm.method? m = some meth) (h3 : meth.code = some c) (h4 : c.code = bytes)
    (h5 : (c.maxLocals == mx && c.exceptionTable.isEmpty && decide (c.maxStack ≤ mostOperands) && decide (meth.sig.returnType = rt) && !meth.locks && decide (parseMethodDescriptor y.desc = some meth.sig)) = true) : (Jvm.Cond.code y bytes mx rt).before a s = true := by
  simp only [Bool.and_eq_true, beq_iff_eq, Bool.not_eq_true', decide_eq_true_eq] at h5
  obtain ⟨⟨⟨⟨⟨g1, g2⟩, g3⟩, g4⟩, g5⟩, g6⟩ := h5
  simp [Cond.before, Cond.holds, Cond.value, h1, h2, h3, h4, g1, g2, g3, g4, g5, g6]
def isCode : Jvm.Cond → Bool
  | .code _ _ _ _ => true
  | _ => false
theorem all_split {L : List Jvm.Cond} {P : Jvm.Cond → Bool} (h1 : L.all (fun c => isCode c || P c) = true) (h2 : ∀ c ∈ L.filter isCode, P c = true) : L.all P = true := by
  refine List.all_eq_true.mpr fun c hc => ?_
  have h := List.all_eq_true.mp h1 c hc
  rcases Bool.eq_false_or_eq_true (isCode c) with hi | hi
  · exact h2 c (List.mem_filter.mpr ⟨hc, hi⟩)
  · simpa [hi] using h
set_option maxRecDepth 65536 in
theorem w_c0 : (Jvm.Cond.code x code maxLocals ret).before args0 about1 = true := code_word (m := ⟨1, 1⟩) (meth := k1m1) (c := k1c1) (by decide +kernel) rfl rfl rfl (by decide +kernel)
set_option maxRecDepth 65536 in
theorem w_c1 : (Jvm.Cond.code ({ cls := "com/example/isomark/isomark/DisjointSets", name := "<init>", desc := "(I)V" } : Jvm.MethodName) prog_32_method_1_code (2 : Nat) (Option.none : Option Jvm.ClassFile.FieldType)).before args0 about1 = true := code_word (m := ⟨2, 0⟩) (meth := k2m0) (c := k2c0) (by decide +kernel) rfl rfl rfl (by decide +kernel)
set_option maxRecDepth 65536 in
theorem w_c2 : (Jvm.Cond.code ({ cls := "java/lang/Object", name := "<init>", desc := "()V" } : Jvm.MethodName) object_method_1_code (1 : Nat) (Option.none : Option Jvm.ClassFile.FieldType)).before args0 about1 = true := code_word (m := ⟨0, 0⟩) (meth := k0m0) (c := k0c0) (by decide +kernel) rfl rfl rfl (by decide +kernel)
set_option maxRecDepth 65536 in
theorem w_c3 : (Jvm.Cond.code ({ cls := "java/util/Arrays", name := "setAll", desc := "([ILjava/util/function/IntUnaryOperator;)V" } : Jvm.MethodName) jdk_65_method_175_code (3 : Nat) (Option.none : Option Jvm.ClassFile.FieldType)).before args0 about1 = true := code_word (m := ⟨4, 1⟩) (meth := k4m1) (c := k4c1) (by decide +kernel) rfl rfl rfl (by decide +kernel)
set_option maxRecDepth 65536 in
theorem w_c4 : (Jvm.Cond.code ({ cls := "java/util/Objects", name := "requireNonNull", desc := "(Ljava/lang/Object;)Ljava/lang/Object;" } : Jvm.MethodName) jdk_31_method_10_code (1 : Nat) (Option.some (Jvm.ClassFile.FieldType.object "java/lang/Object"))).before args0 about1 = true := code_word (m := ⟨5, 1⟩) (meth := k5m1) (c := k5c1) (by decide +kernel) rfl rfl rfl (by decide +kernel)
set_option maxRecDepth 65536 in
theorem w_c5 : (Jvm.Cond.code ({ cls := "com/example/isomark/isomark/DisjointSets", name := "lambda$new$0", desc := "(I)I" } : Jvm.MethodName) prog_32_method_4_code (1 : Nat) (Option.some Jvm.ClassFile.FieldType.int)).before args0 about1 = true := code_word (m := ⟨2, 3⟩) (meth := k2m3) (c := k2c3) (by decide +kernel) rfl rfl rfl (by decide +kernel)
set_option maxRecDepth 65536 in
theorem w_c6 : (Jvm.Cond.code ({ cls := "com/example/isomark/isomark/DisjointSetsRootPinLaw", name := "step", desc := "(Lcom/example/isomark/isomark/DisjointSets;[II)V" } : Jvm.MethodName) method_3_code (5 : Nat) (Option.none : Option Jvm.ClassFile.FieldType)).before args0 about1 = true := code_word (m := ⟨1, 2⟩) (meth := k1m2) (c := k1c2) (by decide +kernel) rfl rfl rfl (by decide +kernel)
set_option maxRecDepth 65536 in
theorem w_c7 : (Jvm.Cond.code ({ cls := "com/example/isomark/isomark/DisjointSets", name := "join", desc := "(II)V" } : Jvm.MethodName) prog_32_method_3_code (3 : Nat) (Option.none : Option Jvm.ClassFile.FieldType)).before args0 about1 = true := code_word (m := ⟨2, 2⟩) (meth := k2m2) (c := k2c2) (by decide +kernel) rfl rfl rfl (by decide +kernel)
set_option maxRecDepth 65536 in
theorem w_c8 : (Jvm.Cond.code ({ cls := "com/example/isomark/isomark/DisjointSets", name := "root", desc := "(I)I" } : Jvm.MethodName) prog_32_method_2_code (4 : Nat) (Option.some Jvm.ClassFile.FieldType.int)).before args0 about1 = true := code_word (m := ⟨2, 1⟩) (meth := k2m1) (c := k2c1) (by decide +kernel) rfl rfl rfl (by decide +kernel)
set_option maxRecDepth 65536 in
theorem w_c9 : (Jvm.Cond.code ({ cls := "com/example/isomark/isomark/DisjointSetsRootPinLaw", name := "relabel", desc := "([III)V" } : Jvm.MethodName) method_4_code (3 : Nat) (Option.none : Option Jvm.ClassFile.FieldType)).before args0 about1 = true := code_word (m := ⟨1, 3⟩) (meth := k1m3) (c := k1c3) (by decide +kernel) rfl rfl rfl (by decide +kernel)
set_option maxRecDepth 65536 in
theorem w_c10 : (Jvm.Cond.code ({ cls := "com/example/isomark/isomark/DisjointSetsRootPinLaw", name := "member", desc := "([I[II)Z" } : Jvm.MethodName) method_5_code (4 : Nat) (Option.some Jvm.ClassFile.FieldType.boolean)).before args0 about1 = true := code_word (m := ⟨1, 4⟩) (meth := k1m4) (c := k1c4) (by decide +kernel) rfl rfl rfl (by decide +kernel)
set_option maxRecDepth 65536 in
theorem w_c11 : (Jvm.Cond.code ({ cls := "com/example/isomark/isomark/DisjointSetsRootPinLaw", name := "pair", desc := "([I[III)Z" } : Jvm.MethodName) method_6_code (4 : Nat) (Option.some Jvm.ClassFile.FieldType.boolean)).before args0 about1 = true := code_word (m := ⟨1, 5⟩) (meth := k1m5) (c := k1c5) (by decide +kernel) rfl rfl rfl (by decide +kernel)
def codes1 : List Jvm.Cond := [Jvm.Cond.code x code maxLocals ret, Jvm.Cond.code ({ cls := "com/example/isomark/isomark/DisjointSets", name := "<init>", desc := "(I)V" } : Jvm.MethodName) prog_32_method_1_code (2 : Nat) (Option.none : Option Jvm.ClassFile.FieldType), Jvm.Cond.code ({ cls := "java/lang/Object", name := "<init>", desc := "()V" } : Jvm.MethodName) object_method_1_code (1 : Nat) (Option.none : Option Jvm.ClassFile.FieldType), Jvm.Cond.code ({ cls := "java/util/Arrays", name := "setAll", desc := "([ILjava/util/function/IntUnaryOperator;)V" } : Jvm.MethodName) jdk_65_method_175_code (3 : Nat) (Option.none : Option Jvm.ClassFile.FieldType), Jvm.Cond.code ({ cls := "java/util/Objects", name := "requireNonNull", desc := "(Ljava/lang/Object;)Ljava/lang/Object;" } : Jvm.MethodName) jdk_31_method_10_code (1 : Nat) (Option.some (Jvm.ClassFile.FieldType.object "java/lang/Object")), Jvm.Cond.code ({ cls := "com/example/isomark/isomark/DisjointSets", name := "lambda$new$0", desc := "(I)I" } : Jvm.MethodName) prog_32_method_4_code (1 : Nat) (Option.some Jvm.ClassFile.FieldType.int), Jvm.Cond.code ({ cls := "com/example/isomark/isomark/DisjointSetsRootPinLaw", name := "step", desc := "(Lcom/example/isomark/isomark/DisjointSets;[II)V" } : Jvm.MethodName) method_3_code (5 : Nat) (Option.none : Option Jvm.ClassFile.FieldType), Jvm.Cond.code ({ cls := "com/example/isomark/isomark/DisjointSets", name := "join", desc := "(II)V" } : Jvm.MethodName) prog_32_method_3_code (3 : Nat) (Option.none : Option Jvm.ClassFile.FieldType), Jvm.Cond.code ({ cls := "com/example/isomark/isomark/DisjointSets", name := "root", desc := "(I)I" } : Jvm.MethodName) prog_32_method_2_code (4 : Nat) (Option.some Jvm.ClassFile.FieldType.int), Jvm.Cond.code ({ cls := "com/example/isomark/isomark/DisjointSetsRootPinLaw", name := "relabel", desc := "([III)V" } : Jvm.MethodName) method_4_code (3 : Nat) (Option.none : Option Jvm.ClassFile.FieldType), Jvm.Cond.code ({ cls := "com/example/isomark/isomark/DisjointSetsRootPinLaw", name := "member", desc := "([I[II)Z" } : Jvm.MethodName) method_5_code (4 : Nat) (Option.some Jvm.ClassFile.FieldType.boolean), Jvm.Cond.code ({ cls := "com/example/isomark/isomark/DisjointSetsRootPinLaw", name := "pair", desc := "([I[III)Z" } : Jvm.MethodName) method_6_code (4 : Nat) (Option.some Jvm.ClassFile.FieldType.boolean)]
set_option maxRecDepth 65536 in
theorem codes_eq : words1.filter isCode = codes1 := rfl
theorem w_codes : ∀ c ∈ words1.filter isCode, c.before args0 about1 = true := by
  rw [codes_eq]
  intro c hc
  simp only [codes1, List.mem_cons, List.not_mem_nil, or_false] at hc
  rcases hc with rfl | rfl | rfl | rfl | rfl | rfl | rfl | rfl | rfl | rfl | rfl | rfl
  · exact w_c0
  · exact w_c1
  · exact w_c2
  · exact w_c3
  · exact w_c4
  · exact w_c5
  · exact w_c6
  · exact w_c7
  · exact w_c8
  · exact w_c9
  · exact w_c10
  · exact w_c11
set_option maxRecDepth 65536 in
theorem w_t1 : (words1.take 24).all (fun c => isCode c || c.before args0 about1) = true := by decide +kernel
set_option maxRecDepth 65536 in
theorem w_t2 : ((words1.drop 24).take 24).all (fun c => isCode c || c.before args0 about1) = true := by decide +kernel
set_option maxRecDepth 65536 in
theorem w_t3 : ((words1.drop 24).drop 24).all (fun c => isCode c || c.before args0 about1) = true := by decide +kernel
theorem w_tables : (allAtoms (Jvm.Cond.code x code maxLocals ret :: tables_1)).before args0 about1 = true := by
  rw [allAtoms_all]
  show words1.all (fun c => c.before args0 about1) = true
  refine all_split ?_ w_codes
  rw [← List.take_append_drop 24 words1, List.all_append, w_t1, ← List.take_append_drop 24 (words1.drop 24), List.all_append, w_t2, w_t3]
  rfl
set_option maxRecDepth 65536 in
theorem w_case : (Jvm.Cond.and given_1 narrow_1).before args0 about1 = true := by decide +kernel
theorem w_applies : (headSpec (Jvm.Cond.code x code maxLocals ret :: tables_1) room_1).applies x e0.platform about1 = true :=
  (Spec.applies_iff w_frames).mpr ⟨w_running, w_runnable, w_alone, w_named, w_hears, w_ripe, w_room, w_tables⟩
theorem atStart : AtStart classFile x code maxLocals ret World_1 tables_1 room_1 Calls_1 rest_1 Pre_1 launch0 p0 e0 about1 theMethod args0 below0 :=
  ⟨lists_1, trivial, launch0.admits_env _ _ _, launch0.least_env, fairChoices_fair.cas, fairChoices_fair.clock, w_frames, w_args, w_heap, w_applies, trivial, trivial, w_case⟩
end start1
theorem witness_1 : WitnessClaimed_1 := ⟨start1.p0, start1.e0, start1.about1, start1.theMethod, start1.args0, start1.below0, start1.atStart⟩
end Jvm.Pilot.@@N@@
