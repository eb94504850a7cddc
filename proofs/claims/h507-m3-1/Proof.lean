import JvmDerived
import JvmDerived.Pilot.@@N@@Statement
import JvmDerived.Pilot.@@N@@Code
set_option linter.unusedVariables false
set_option linter.unusedSimpArgs false
namespace Jvm.WK
open Sem ClassFile Op Lib Jvm.Stand Jvm.Free Jvm.LawKit Jvm.RoadKit Bundle
/-! WK: a walk in continuation form over RoadKit's laws: 'Go' (from this frame the invocation ends well), 'W' (where the walk stands; it may have interned), one law a step. -/
abbrev Cx : Type := Program × Env × State × MethodId × Array Value × List Frame × Method × Code
abbrev Cx.p (κ : Cx) : Program := κ.1
abbrev Cx.e (κ : Cx) : Env := κ.2.1
abbrev Cx.s (κ : Cx) : State := κ.2.2.1
abbrev Cx.m (κ : Cx) : MethodId := κ.2.2.2.1
abbrev Cx.a (κ : Cx) : Array Value := κ.2.2.2.2.1
abbrev Cx.b (κ : Cx) : List Frame := κ.2.2.2.2.2.1
abbrev Cx.M (κ : Cx) : Method := κ.2.2.2.2.2.2.1
abbrev Cx.c (κ : Cx) : Code := κ.2.2.2.2.2.2.2
def Fx (κ : Cx) (G : Option Value → State → Prop) (A : State) : Prop :=
  ∃ (v : Option Value) (B : State), Steps κ.p.tables κ.e κ.b A B ∧ B.status = .running ∧ Ended B κ.b (.returned v) ∧ G v B
abbrev Go (κ : Cx) (G : Option Value → State → Prop) (T : State) (pc : Nat) (Ls : Array Slot) (st : List Value) : Prop := Fx κ G (T.setTop (mkF κ.m pc Ls st))
section Base
variable {κ : Cx} {G : Option Value → State → Prop} {T : State}
theorem Fx.via {A A' : State} (k : ∀ t, Steps κ.p.tables κ.e κ.b A' t → Steps κ.p.tables κ.e κ.b A t) (f : Fx κ G A') : Fx κ G A := by
  obtain ⟨v, B, h1, h2⟩ := f; exact ⟨v, B, k _ h1, h2⟩
theorem Fx.after {A A' : State} (k : Steps κ.p.tables κ.e κ.b A A') (f : Fx κ G A') : Fx κ G A := by
  obtain ⟨v, B, h1, h2⟩ := f; exact ⟨v, B, k.trans h1, h2⟩
def Dec (κ : Cx) (D : List (Nat × Instr × Nat)) : Prop := ∀ q ∈ D, decode κ.c.code q.1 = .ok q.2
theorem Dec.g {D : List (Nat × Instr × Nat)} (d : Dec κ D) (i : Nat) {pc : Nat} {ins : Instr} {len : Nat} (h : D[i]? = some (pc, ins, len)) : decode κ.c.code pc = .ok (ins, len) := d (pc, ins, len) (List.mem_of_getElem? h)
theorem Dec.of {D : List (Nat × Instr × Nat)} {code : ByteArray} (hc : κ.c.code = code) (h : ∀ q ∈ D, decode code q.1 = .ok q.2) : Dec κ D := fun q hq => by rw [hc]; exact h q hq
theorem Go.top {pc : Nat} {Ls : Array Slot} {st : List Value} {x y : Int32} (e : x = y) (g : Go κ G T pc Ls (.int y :: st)) : Go κ G T pc Ls (.int x :: st) := by subst e; exact g
/-- it stands, and the tables execute as they should -/
def Ok (κ : Cx) (T : State) : Prop := At T κ.m κ.c κ.b ∧ κ.p.tables.exec = Jvm.exec
abbrev St : Type := Nat × Array Slot × List Value
def Snd (κ : Cx) (T : State) (f : St → Option St) : Prop := ∀ (a b : St) (G : Option Value → State → Prop), f a = some b → Go κ G T b.1 b.2.1 b.2.2 → Go κ G T a.1 a.2.1 a.2.2
def Opn (κ : Cx) (T : State) : Type := { f : St → Option St // Snd κ T f }
def run : List (Opn κ T) → St → Option St
  | [], a => some a
  | o :: os, a => match o.1 a with | some b => run os b | none => none
theorem run_ok : ∀ (os : List (Opn κ T)) (a b : St), run os a = some b → Go κ G T b.1 b.2.1 b.2.2 → Go κ G T a.1 a.2.1 a.2.2
  | [], a, b, h, g => by cases h; exact g
  | o :: os, a, b, h, g => by
    unfold run at h
    split at h
    · rename_i b' hb
      exact o.2 a b' G hb (run_ok os b' b h g)
    · cases h
theorem blk (os : List (Opn κ T)) {pc pc' : Nat} {Ls Ls' : Array Slot} {st st' : List Value} (h : run os (pc, Ls, st) = some (pc', Ls', st')) (g : Go κ G T pc' Ls' st') : Go κ G T pc Ls st := run_ok os (pc, Ls, st) (pc', Ls', st') h g
def mkOp (pc0 : Nat) (f : Array Slot → List Value → Option St) (hs : ∀ (Ls : Array Slot) (st : List Value) (b : St) (G : Option Value → State → Prop), f Ls st = some b → Go κ G T b.1 b.2.1 b.2.2 → Go κ G T pc0 Ls st) : Opn κ T :=
  ⟨fun a => match Nat.beq a.1 pc0 with | true => f a.2.1 a.2.2 | false => none, by
    intro a b G h g
    obtain ⟨pc, Ls, st⟩ := a
    dsimp only at h
    split at h
    · rename_i hb
      have := Nat.eq_of_beq_eq_true hb
      subst this
      exact hs Ls st b G h g
    · cases h⟩
end Base
section Ops
variable {κ : Cx} {T : State} {pc0 : Nat}
def oIconst (w : Ok κ T) {i : Int} (hd : decode κ.c.code pc0 = .ok (.iconst i, 1)) : Opn κ T := mkOp pc0 (fun Ls st => some (pc0 + 1, Ls, .int (Int32.ofInt i) :: st)) (by
  intro Ls st b G h g; cases h; exact Fx.via (fun _ => XS.iconst w.1 w.2 rfl hd) g)
def oBipush (w : Ok κ T) {i : Int} (hd : decode κ.c.code pc0 = .ok (.bipush i, 2)) : Opn κ T := mkOp pc0 (fun Ls st => some (pc0 + 2, Ls, .int (Int8.ofInt i).toInt32 :: st)) (by
  intro Ls st b G h g; cases h; exact Fx.via (fun _ => XS.bipush w.1 w.2 rfl hd) g)
def oSipush (w : Ok κ T) {i : Int} (hd : decode κ.c.code pc0 = .ok (.sipush i, 3)) : Opn κ T := mkOp pc0 (fun Ls st => some (pc0 + 3, Ls, .int (Int16.ofInt i).toInt32 :: st)) (by
  intro Ls st b G h g; cases h; exact Fx.via (fun _ => XS.sipush w.1 w.2 rfl hd) g)
def oAnull (w : Ok κ T) (hd : decode κ.c.code pc0 = .ok (.aconst_null, 1)) : Opn κ T := mkOp pc0 (fun Ls st => some (pc0 + 1, Ls, .null :: st)) (by
  intro Ls st b G h g; cases h; exact Fx.via (fun _ => XS.aconstNull w.1 w.2 rfl hd) g)
def oIload (w : Ok κ T) {k : Nat} (hd : decode κ.c.code pc0 = .ok (.iload k, 2)) : Opn κ T := mkOp pc0 (fun Ls st => match Ls[k]? with | some (.val (.int v)) => some (pc0 + 2, Ls, .int v :: st) | _ => none) (by
  intro Ls st b G h g
  split at h
  · rename_i v hl; cases h; exact Fx.via (fun _ => XS.iload w.1 w.2 rfl hd hl) g
  · cases h)
def oIloadN (w : Ok κ T) {k : Fin 4} (hd : decode κ.c.code pc0 = .ok (.iload_n k, 1)) : Opn κ T := mkOp pc0 (fun Ls st => match Ls[k.val]? with | some (.val (.int v)) => some (pc0 + 1, Ls, .int v :: st) | _ => none) (by
  intro Ls st b G h g
  split at h
  · rename_i v hl; cases h; exact Fx.via (fun _ => XS.iloadN w.1 w.2 rfl hd hl) g
  · cases h)
def oDload (w : Ok κ T) {k : Nat} (hd : decode κ.c.code pc0 = .ok (.dload k, 2)) : Opn κ T := mkOp pc0 (fun Ls st => match Ls[k]? with | some (.val (.double v)) => some (pc0 + 2, Ls, .double v :: st) | _ => none) (by
  intro Ls st b G h g
  split at h
  · rename_i v hl; cases h; exact Fx.via (fun _ => XS.dload w.1 w.2 rfl hd hl) g
  · cases h)
def oAload (w : Ok κ T) {k : Nat} (hd : decode κ.c.code pc0 = .ok (.aload k, 2)) : Opn κ T := mkOp pc0 (fun Ls st => match Ls[k]? with | some (.val (.ref v)) => some (pc0 + 2, Ls, .ref v :: st) | some (.val .null) => some (pc0 + 2, Ls, .null :: st) | _ => none) (by
  intro Ls st b G h g
  split at h
  · rename_i v hl; cases h; exact Fx.via (fun _ => XS.aload w.1 w.2 rfl hd hl rfl) g
  · rename_i hl; cases h; exact Fx.via (fun _ => XS.aload w.1 w.2 rfl hd hl rfl) g
  · cases h)
def oAloadN (w : Ok κ T) {k : Fin 4} (hd : decode κ.c.code pc0 = .ok (.aload_n k, 1)) : Opn κ T := mkOp pc0 (fun Ls st => match Ls[k.val]? with | some (.val (.ref v)) => some (pc0 + 1, Ls, .ref v :: st) | some (.val .null) => some (pc0 + 1, Ls, .null :: st) | _ => none) (by
  intro Ls st b G h g
  split at h
  · rename_i v hl; cases h; exact Fx.via (fun _ => XS.aloadN w.1 w.2 rfl hd hl rfl) g
  · rename_i hl; cases h; exact Fx.via (fun _ => XS.aloadN w.1 w.2 rfl hd hl rfl) g
  · cases h)
def oIstore (w : Ok κ T) {k : Nat} (hd : decode κ.c.code pc0 = .ok (.istore k, 2)) : Opn κ T := mkOp pc0 (fun Ls st => match st with | .int x :: r => (match storeLocals Ls k (.int x) with | some l' => some (pc0 + 2, l', r) | none => none) | _ => none) (by
  intro Ls st b G h g
  split at h
  · split at h
    · rename_i l' hl; cases h; exact Fx.via (fun _ => XS.istore w.1 w.2 rfl hd rfl hl) g
    · cases h
  · cases h)
def oIstoreN (w : Ok κ T) {k : Fin 4} (hd : decode κ.c.code pc0 = .ok (.istore_n k, 1)) : Opn κ T := mkOp pc0 (fun Ls st => match st with | .int x :: r => (match storeLocals Ls k.val (.int x) with | some l' => some (pc0 + 1, l', r) | none => none) | _ => none) (by
  intro Ls st b G h g
  split at h
  · split at h
    · rename_i l' hl; cases h; exact Fx.via (fun _ => XS.istoreN w.1 w.2 rfl hd rfl hl) g
    · cases h
  · cases h)
def oDstore (w : Ok κ T) {k : Nat} (hd : decode κ.c.code pc0 = .ok (.dstore k, 2)) : Opn κ T := mkOp pc0 (fun Ls st => match st with | .double x :: r => (match storeLocals Ls k (.double x) with | some l' => some (pc0 + 2, l', r) | none => none) | _ => none) (by
  intro Ls st b G h g
  split at h
  · split at h
    · rename_i l' hl; cases h; exact Fx.via (fun _ => XS.dstore w.1 w.2 rfl hd rfl hl) g
    · cases h
  · cases h)
def oAstore (w : Ok κ T) {k : Nat} (hd : decode κ.c.code pc0 = .ok (.astore k, 2)) : Opn κ T := mkOp pc0 (fun Ls st => match st with | .ref x :: r => (match storeLocals Ls k (.ref x) with | some l' => some (pc0 + 2, l', r) | none => none) | .null :: r => (match storeLocals Ls k .null with | some l' => some (pc0 + 2, l', r) | none => none) | _ => none) (by
  intro Ls st b G h g
  split at h
  · split at h
    · rename_i l' hl; cases h; exact Fx.via (fun _ => XS.astore w.1 w.2 rfl hd rfl rfl hl) g
    · cases h
  · split at h
    · rename_i l' hl; cases h; exact Fx.via (fun _ => XS.astore w.1 w.2 rfl hd rfl rfl hl) g
    · cases h
  · cases h)
def oAstoreN (w : Ok κ T) {k : Fin 4} (hd : decode κ.c.code pc0 = .ok (.astore_n k, 1)) : Opn κ T := mkOp pc0 (fun Ls st => match st with | .ref x :: r => (match storeLocals Ls k.val (.ref x) with | some l' => some (pc0 + 1, l', r) | none => none) | .null :: r => (match storeLocals Ls k.val .null with | some l' => some (pc0 + 1, l', r) | none => none) | _ => none) (by
  intro Ls st b G h g
  split at h
  · split at h
    · rename_i l' hl; cases h; exact Fx.via (fun _ => XS.astoreN w.1 w.2 rfl hd rfl rfl hl) g
    · cases h
  · split at h
    · rename_i l' hl; cases h; exact Fx.via (fun _ => XS.astoreN w.1 w.2 rfl hd rfl rfl hl) g
    · cases h
  · cases h)
def oIinc (w : Ok κ T) {k : Nat} {z : Int} (hd : decode κ.c.code pc0 = .ok (.iinc k z, 3)) : Opn κ T := mkOp pc0 (fun Ls st => match Ls[k]? with | some (.val (.int x)) => (match storeLocals Ls k (.int (x + Int32.ofInt z)) with | some l' => some (pc0 + 3, l', st) | none => none) | _ => none) (by
  intro Ls st b G h g
  split at h
  · rename_i x hx
    split at h
    · rename_i l' hl; cases h; exact Fx.via (fun _ => XS.iinc w.1 w.2 rfl hd hx hl) g
    · cases h
  · cases h)
def oBin (pc0 : Nat) (f : Int32 → Int32 → Int32) (hs : ∀ (x y : Int32) (r : List Value) (Ls : Array Slot) (G : Option Value → State → Prop), Go κ G T (pc0 + 1) Ls (.int (f x y) :: r) → Go κ G T pc0 Ls (.int y :: .int x :: r)) : Opn κ T := mkOp pc0 (fun Ls st => match st with | .int y :: .int x :: r => some (pc0 + 1, Ls, .int (f x y) :: r) | _ => none) (by
  intro Ls st b G h g
  split at h
  · cases h; exact hs _ _ _ _ _ g
  · cases h)
def oIadd (w : Ok κ T) (hd : decode κ.c.code pc0 = .ok (.iadd, 1)) : Opn κ T := oBin pc0 (fun x y => x + y) (fun _ _ _ _ _ g => Fx.via (fun _ => XS.iadd w.1 w.2 rfl hd rfl) g)
def oIsub (w : Ok κ T) (hd : decode κ.c.code pc0 = .ok (.isub, 1)) : Opn κ T := oBin pc0 (fun x y => x - y) (fun _ _ _ _ _ g => Fx.via (fun _ => XS.isub w.1 w.2 rfl hd rfl) g)
def oImul (w : Ok κ T) (hd : decode κ.c.code pc0 = .ok (.imul, 1)) : Opn κ T := oBin pc0 (fun x y => x * y) (fun _ _ _ _ _ g => Fx.via (fun _ => XS.imul w.1 w.2 rfl hd rfl) g)
def oIand (w : Ok κ T) (hd : decode κ.c.code pc0 = .ok (.iand, 1)) : Opn κ T := oBin pc0 (fun x y => x &&& y) (fun _ _ _ _ _ g => Fx.via (fun _ => XS.iand w.1 w.2 rfl hd rfl) g)
def oIor (w : Ok κ T) (hd : decode κ.c.code pc0 = .ok (.ior, 1)) : Opn κ T := oBin pc0 (fun x y => x ||| y) (fun _ _ _ _ _ g => Fx.via (fun _ => XS.ior w.1 w.2 rfl hd rfl) g)
def oIxor (w : Ok κ T) (hd : decode κ.c.code pc0 = .ok (.ixor, 1)) : Opn κ T := oBin pc0 (fun x y => x ^^^ y) (fun _ _ _ _ _ g => Fx.via (fun _ => XS.ixor w.1 w.2 rfl hd rfl) g)
def oIshl (w : Ok κ T) (hd : decode κ.c.code pc0 = .ok (.ishl, 1)) : Opn κ T := oBin pc0 (fun x y => x <<< (y &&& 31)) (fun _ _ _ _ _ g => Fx.via (fun _ => XS.ishl w.1 w.2 rfl hd rfl) g)
def oIshr (w : Ok κ T) (hd : decode κ.c.code pc0 = .ok (.ishr, 1)) : Opn κ T := oBin pc0 (fun x y => x >>> (y &&& 31)) (fun _ _ _ _ _ g => Fx.via (fun _ => XS.ishr w.1 w.2 rfl hd rfl) g)
def oIushr (w : Ok κ T) (hd : decode κ.c.code pc0 = .ok (.iushr, 1)) : Opn κ T := oBin pc0 (fun x y => (x.toUInt32 >>> (y &&& 31).toUInt32).toInt32) (fun _ _ _ _ _ g => Fx.via (fun _ => XS.iushr w.1 w.2 rfl hd rfl) g)
def oIrem (w : Ok κ T) (hd : decode κ.c.code pc0 = .ok (.irem, 1)) : Opn κ T := mkOp pc0 (fun Ls st => match st with | .int y :: .int x :: r => (match decEq y 0 with | isTrue _ => none | isFalse _ => some (pc0 + 1, Ls, .int (x % y) :: r)) | _ => none) (by
  intro Ls st b G h g
  split at h
  · split at h
    · cases h
    · rename_i x y r _ hy _; cases h
      refine Fx.via (fun _ z => XS.irem w.1 w.2 rfl hd rfl hy ?_) g
      have q := irem_eq_mod
      rw [q]; exact z
  · cases h)
def oUn (pc0 : Nat) (f : Int32 → Int32) (hs : ∀ (x : Int32) (r : List Value) (Ls : Array Slot) (G : Option Value → State → Prop), Go κ G T (pc0 + 1) Ls (.int (f x) :: r) → Go κ G T pc0 Ls (.int x :: r)) : Opn κ T := mkOp pc0 (fun Ls st => match st with | .int x :: r => some (pc0 + 1, Ls, .int (f x) :: r) | _ => none) (by
  intro Ls st b G h g
  split at h
  · cases h; exact hs _ _ _ _ g
  · cases h)
def oIneg (w : Ok κ T) (hd : decode κ.c.code pc0 = .ok (.ineg, 1)) : Opn κ T := oUn pc0 (fun x => -x) (fun _ _ _ _ g => Fx.via (fun _ => XS.ineg w.1 w.2 rfl hd rfl) g)
def oI2b (w : Ok κ T) (hd : decode κ.c.code pc0 = .ok (.i2b, 1)) : Opn κ T := oUn pc0 (fun x => x.toInt8.toInt32) (fun _ _ _ _ g => Fx.via (fun _ => XS.i2b w.1 w.2 rfl hd rfl) g)
def oI2c (w : Ok κ T) (hd : decode κ.c.code pc0 = .ok (.i2c, 1)) : Opn κ T := oUn pc0 (fun x => x.toUInt32.toUInt16.toUInt32.toInt32) (fun _ _ _ _ g => Fx.via (fun _ => XS.i2c w.1 w.2 rfl hd rfl) g)
def oI2s (w : Ok κ T) (hd : decode κ.c.code pc0 = .ok (.i2s, 1)) : Opn κ T := oUn pc0 (fun x => x.toInt16.toInt32) (fun _ _ _ _ g => Fx.via (fun _ => XS.i2s w.1 w.2 rfl hd rfl) g)
def oI2d (w : Ok κ T) (hd : decode κ.c.code pc0 = .ok (.i2d, 1)) : Opn κ T := mkOp pc0 (fun Ls st => match st with | .int x :: r => some (pc0 + 1, Ls, .double (FP.i2d x) :: r) | _ => none) (by
  intro Ls st b G h g
  split at h
  · cases h; exact Fx.via (fun _ => XS.i2dS w.1 w.2 rfl hd rfl rfl) g
  · cases h)
def oDup (w : Ok κ T) (hd : decode κ.c.code pc0 = .ok (.dup, 1)) : Opn κ T := mkOp pc0 (fun Ls st => match st with | .int x :: r => some (pc0 + 1, Ls, .int x :: .int x :: r) | .ref x :: r => some (pc0 + 1, Ls, .ref x :: .ref x :: r) | _ => none) (by
  intro Ls st b G h g
  split at h
  · cases h; exact Fx.via (fun _ => XS.dup w.1 w.2 rfl hd rfl rfl) g
  · cases h; exact Fx.via (fun _ => XS.dup w.1 w.2 rfl hd rfl rfl) g
  · cases h)
def oPop (w : Ok κ T) (hd : decode κ.c.code pc0 = .ok (.pop, 1)) : Opn κ T := mkOp pc0 (fun Ls st => match st with | .int x :: r => some (pc0 + 1, Ls, r) | .ref x :: r => some (pc0 + 1, Ls, r) | .null :: r => some (pc0 + 1, Ls, r) | _ => none) (by
  intro Ls st b G h g
  split at h
  · cases h; exact Fx.via (fun _ => XS.pop w.1 w.2 rfl hd rfl rfl) g
  · cases h; exact Fx.via (fun _ => XS.pop w.1 w.2 rfl hd rfl rfl) g
  · cases h; exact Fx.via (fun _ => XS.pop w.1 w.2 rfl hd rfl rfl) g
  · cases h)
def oGoto (w : Ok κ T) {o : Int} (pc' : Nat) (hd : decode κ.c.code pc0 = .ok (.goto o, 3)) (ho : 0 ≤ (pc0 : Int) + o := by decide) (hp : ((pc0 : Int) + o).toNat = pc' := by decide) : Opn κ T := mkOp pc0 (fun Ls st => some (pc', Ls, st)) (by
  intro Ls st b G h g; cases h; exact Fx.via (fun _ => XS.goto w.1 w.2 rfl rfl hd ho hp) g)
end Ops
section Branch
variable {κ : Cx} {G : Option Value → State → Prop} {T : State} {pc pc' : Nat} {Ls : Array Slot} {st : List Value} {x y : Int32} {o : Int}
theorem if_icmpG (w : Ok κ T) {cd : ClassFile.Cond} (hd : decode κ.c.code pc = .ok (.if_icmp cd o, 3)) (ho : 0 ≤ (pc : Int) + o) (hp : ((pc : Int) + o).toNat = pc') (hT : if_icmp.holds cd x y = true → Go κ G T pc' Ls st) (hF : if_icmp.holds cd x y = false → Go κ G T (pc + 3) Ls st) : Go κ G T pc Ls (.int y :: .int x :: st) := by
  cases hb : if_icmp.holds cd x y with
  | true => exact Fx.via (fun _ => XS.icmpYes w.1 w.2 rfl rfl hd rfl hb ho hp) (hT hb)
  | false => exact Fx.via (fun _ => XS.icmpNo w.1 w.2 rfl hd rfl hb) (hF hb)
theorem ifG (w : Ok κ T) {cd : ClassFile.Cond} (hd : decode κ.c.code pc = .ok (.ifCond cd o, 3)) (ho : 0 ≤ (pc : Int) + o) (hp : ((pc : Int) + o).toNat = pc') (hT : if_icmp.holds cd x 0 = true → Go κ G T pc' Ls st) (hF : if_icmp.holds cd x 0 = false → Go κ G T (pc + 3) Ls st) : Go κ G T pc Ls (.int x :: st) := by
  cases hb : if_icmp.holds cd x 0 with
  | true => exact Fx.via (fun _ => XS.ifYes w.1 w.2 rfl rfl hd rfl ((if0 cd x).trans hb) ho hp) (hT hb)
  | false => exact Fx.via (fun _ => XS.ifNo w.1 w.2 rfl hd rfl ((if0 cd x).trans hb)) (hF hb)
theorem h_eq {x y : Int32} : (if_icmp.holds .eq x y = true → x = y) ∧ (if_icmp.holds .eq x y = false → ¬ x = y) := ⟨fun h => Classical.byContradiction fun q => (by rw [(feq q).1] at h; cases h), fun h q => (by rw [(teq q).1] at h; cases h)⟩
theorem h_ne {x y : Int32} : (if_icmp.holds .ne x y = true → ¬ x = y) ∧ (if_icmp.holds .ne x y = false → x = y) := ⟨fun h q => (by rw [(teq q).2] at h; cases h), fun h => Classical.byContradiction fun q => (by rw [(feq q).2] at h; cases h)⟩
theorem h_lt {x y : Int32} : (if_icmp.holds .lt x y = true → x < y) ∧ (if_icmp.holds .lt x y = false → ¬ x < y) := ⟨fun h => Classical.byContradiction fun q => (by rw [(flt q).1] at h; cases h), fun h q => (by rw [(tlt q).1] at h; cases h)⟩
theorem h_ge {x y : Int32} : (if_icmp.holds .ge x y = true → ¬ x < y) ∧ (if_icmp.holds .ge x y = false → x < y) := ⟨fun h q => (by rw [(tlt q).2.1] at h; cases h), fun h => Classical.byContradiction fun q => (by rw [(flt q).2.1] at h; cases h)⟩
theorem h_gt {x y : Int32} : (if_icmp.holds .gt x y = true → y < x) ∧ (if_icmp.holds .gt x y = false → ¬ y < x) := ⟨fun h => Classical.byContradiction fun q => (by rw [(flt q).2.2.1] at h; cases h), fun h q => (by rw [(tlt q).2.2.1] at h; cases h)⟩
theorem h_le {x y : Int32} : (if_icmp.holds .le x y = true → ¬ y < x) ∧ (if_icmp.holds .le x y = false → y < x) := ⟨fun h q => (by rw [(tlt q).2.2.2] at h; cases h), fun h => Classical.byContradiction fun q => (by rw [(flt q).2.2.2] at h; cases h)⟩
theorem cEq (w : Ok κ T) (hd : decode κ.c.code pc = .ok (.if_icmp .eq o, 3)) (ho : 0 ≤ (pc : Int) + o) (hp : ((pc : Int) + o).toNat = pc') (hT : x = y → Go κ G T pc' Ls st) (hF : ¬ x = y → Go κ G T (pc + 3) Ls st) : Go κ G T pc Ls (.int y :: .int x :: st) := if_icmpG w hd ho hp (fun q => hT (h_eq.1 q)) (fun q => hF (h_eq.2 q))
theorem cNe (w : Ok κ T) (hd : decode κ.c.code pc = .ok (.if_icmp .ne o, 3)) (ho : 0 ≤ (pc : Int) + o) (hp : ((pc : Int) + o).toNat = pc') (hT : ¬ x = y → Go κ G T pc' Ls st) (hF : x = y → Go κ G T (pc + 3) Ls st) : Go κ G T pc Ls (.int y :: .int x :: st) := if_icmpG w hd ho hp (fun q => hT (h_ne.1 q)) (fun q => hF (h_ne.2 q))
theorem cLt (w : Ok κ T) (hd : decode κ.c.code pc = .ok (.if_icmp .lt o, 3)) (ho : 0 ≤ (pc : Int) + o) (hp : ((pc : Int) + o).toNat = pc') (hT : x < y → Go κ G T pc' Ls st) (hF : ¬ x < y → Go κ G T (pc + 3) Ls st) : Go κ G T pc Ls (.int y :: .int x :: st) := if_icmpG w hd ho hp (fun q => hT (h_lt.1 q)) (fun q => hF (h_lt.2 q))
theorem cGe (w : Ok κ T) (hd : decode κ.c.code pc = .ok (.if_icmp .ge o, 3)) (ho : 0 ≤ (pc : Int) + o) (hp : ((pc : Int) + o).toNat = pc') (hT : ¬ x < y → Go κ G T pc' Ls st) (hF : x < y → Go κ G T (pc + 3) Ls st) : Go κ G T pc Ls (.int y :: .int x :: st) := if_icmpG w hd ho hp (fun q => hT (h_ge.1 q)) (fun q => hF (h_ge.2 q))
theorem cGt (w : Ok κ T) (hd : decode κ.c.code pc = .ok (.if_icmp .gt o, 3)) (ho : 0 ≤ (pc : Int) + o) (hp : ((pc : Int) + o).toNat = pc') (hT : y < x → Go κ G T pc' Ls st) (hF : ¬ y < x → Go κ G T (pc + 3) Ls st) : Go κ G T pc Ls (.int y :: .int x :: st) := if_icmpG w hd ho hp (fun q => hT (h_gt.1 q)) (fun q => hF (h_gt.2 q))
theorem cLe (w : Ok κ T) (hd : decode κ.c.code pc = .ok (.if_icmp .le o, 3)) (ho : 0 ≤ (pc : Int) + o) (hp : ((pc : Int) + o).toNat = pc') (hT : ¬ y < x → Go κ G T pc' Ls st) (hF : y < x → Go κ G T (pc + 3) Ls st) : Go κ G T pc Ls (.int y :: .int x :: st) := if_icmpG w hd ho hp (fun q => hT (h_le.1 q)) (fun q => hF (h_le.2 q))
theorem zEq (w : Ok κ T) (hd : decode κ.c.code pc = .ok (.ifCond .eq o, 3)) (ho : 0 ≤ (pc : Int) + o) (hp : ((pc : Int) + o).toNat = pc') (hT : x = 0 → Go κ G T pc' Ls st) (hF : ¬ x = 0 → Go κ G T (pc + 3) Ls st) : Go κ G T pc Ls (.int x :: st) := ifG w hd ho hp (fun q => hT (h_eq.1 q)) (fun q => hF (h_eq.2 q))
theorem zNe (w : Ok κ T) (hd : decode κ.c.code pc = .ok (.ifCond .ne o, 3)) (ho : 0 ≤ (pc : Int) + o) (hp : ((pc : Int) + o).toNat = pc') (hT : ¬ x = 0 → Go κ G T pc' Ls st) (hF : x = 0 → Go κ G T (pc + 3) Ls st) : Go κ G T pc Ls (.int x :: st) := ifG w hd ho hp (fun q => hT (h_ne.1 q)) (fun q => hF (h_ne.2 q))
theorem zLt (w : Ok κ T) (hd : decode κ.c.code pc = .ok (.ifCond .lt o, 3)) (ho : 0 ≤ (pc : Int) + o) (hp : ((pc : Int) + o).toNat = pc') (hT : x < 0 → Go κ G T pc' Ls st) (hF : ¬ x < 0 → Go κ G T (pc + 3) Ls st) : Go κ G T pc Ls (.int x :: st) := ifG w hd ho hp (fun q => hT (h_lt.1 q)) (fun q => hF (h_lt.2 q))
theorem zGe (w : Ok κ T) (hd : decode κ.c.code pc = .ok (.ifCond .ge o, 3)) (ho : 0 ≤ (pc : Int) + o) (hp : ((pc : Int) + o).toNat = pc') (hT : ¬ x < 0 → Go κ G T pc' Ls st) (hF : x < 0 → Go κ G T (pc + 3) Ls st) : Go κ G T pc Ls (.int x :: st) := ifG w hd ho hp (fun q => hT (h_ge.1 q)) (fun q => hF (h_ge.2 q))
theorem zGt (w : Ok κ T) (hd : decode κ.c.code pc = .ok (.ifCond .gt o, 3)) (ho : 0 ≤ (pc : Int) + o) (hp : ((pc : Int) + o).toNat = pc') (hT : 0 < x → Go κ G T pc' Ls st) (hF : ¬ 0 < x → Go κ G T (pc + 3) Ls st) : Go κ G T pc Ls (.int x :: st) := ifG w hd ho hp (fun q => hT (h_gt.1 q)) (fun q => hF (h_gt.2 q))
theorem zLe (w : Ok κ T) (hd : decode κ.c.code pc = .ok (.ifCond .le o, 3)) (ho : 0 ≤ (pc : Int) + o) (hp : ((pc : Int) + o).toNat = pc') (hT : ¬ 0 < x → Go κ G T pc' Ls st) (hF : 0 < x → Go κ G T (pc + 3) Ls st) : Go κ G T pc Ls (.int x :: st) := ifG w hd ho hp (fun q => hT (h_le.1 q)) (fun q => hF (h_le.2 q))
theorem nnRef (w : Ok κ T) {a : Addr} (hd : decode κ.c.code pc = .ok (.ifnonnull o, 3)) (ho : 0 ≤ (pc : Int) + o) (hp : ((pc : Int) + o).toNat = pc') (g : Go κ G T pc' Ls st) : Go κ G T pc Ls (.ref a :: st) := Fx.via (fun _ => XT.nonnullYes w.1 w.2 rfl rfl hd rfl rfl (fun q => nomatch q) ho hp) g
theorem nnNull (w : Ok κ T) (hd : decode κ.c.code pc = .ok (.ifnonnull o, 3)) (g : Go κ G T (pc + 3) Ls st) : Go κ G T pc Ls (.null :: st) := Fx.via (fun _ => XT.nonnullNo w.1 w.2 rfl hd rfl rfl) g
theorem nuNull (w : Ok κ T) (hd : decode κ.c.code pc = .ok (.ifnull o, 3)) (ho : 0 ≤ (pc : Int) + o) (hp : ((pc : Int) + o).toNat = pc') (g : Go κ G T pc' Ls st) : Go κ G T pc Ls (.null :: st) := Fx.via (fun _ => XS.ifnullYes w.1 w.2 rfl rfl hd rfl ho hp) g
theorem nuRef (w : Ok κ T) {a : Addr} (hd : decode κ.c.code pc = .ok (.ifnull o, 3)) (g : Go κ G T (pc + 3) Ls st) : Go κ G T pc Ls (.ref a :: st) := Fx.via (fun _ => XS.ifnullNo w.1 w.2 rfl hd rfl) g
theorem aloadV (w : Ok κ T) {k : Nat} {v : Value} (hd : decode κ.c.code pc = .ok (.aload k, 2)) (hl : Ls[k]? = some (.val v)) (hv : v.isRef = true) (g : Go κ G T (pc + 2) Ls (v :: st)) : Go κ G T pc Ls st := Fx.via (fun _ => XS.aload w.1 w.2 rfl hd hl hv) g
theorem aloadNV (w : Ok κ T) {k : Fin 4} {v : Value} (hd : decode κ.c.code pc = .ok (.aload_n k, 1)) (hl : Ls[k.val]? = some (.val v)) (hv : v.isRef = true) (g : Go κ G T (pc + 1) Ls (v :: st)) : Go κ G T pc Ls st := Fx.via (fun _ => XS.aloadN w.1 w.2 rfl hd hl hv) g
theorem astoreV (w : Ok κ T) {k : Nat} {v : Value} {l' : Array Slot} (hd : decode κ.c.code pc = .ok (.astore k, 2)) (hv : v.isRef = true) (hl : storeLocals Ls k v = some l') (g : Go κ G T (pc + 2) l' st) : Go κ G T pc Ls (v :: st) := Fx.via (fun _ => XS.astore w.1 w.2 rfl hd rfl hv hl) g
theorem astoreNV (w : Ok κ T) {k : Fin 4} {v : Value} {l' : Array Slot} (hd : decode κ.c.code pc = .ok (.astore_n k, 1)) (hv : v.isRef = true) (hl : storeLocals Ls k.val v = some l') (g : Go κ G T (pc + 1) l' st) : Go κ G T pc Ls (v :: st) := Fx.via (fun _ => XS.astoreN w.1 w.2 rfl hd rfl hv hl) g
theorem istoreG (w : Ok κ T) {k : Nat} {o' : Slot} (hd : decode κ.c.code pc = .ok (.istore k, 2)) (hold : Ls[k]? = some o') (ho : One o') (g : Go κ G T (pc + 2) (Ls.setIfInBounds k (.val (.int x))) st) : Go κ G T pc Ls (.int x :: st) := Fx.via (fun _ => XS.istoreS w.1 w.2 rfl hd rfl hold ho) g
theorem istoreNG (w : Ok κ T) {k : Fin 4} {o' : Slot} (hd : decode κ.c.code pc = .ok (.istore_n k, 1)) (hold : Ls[k.val]? = some o') (ho : One o') (g : Go κ G T (pc + 1) (Ls.setIfInBounds k.val (.val (.int x))) st) : Go κ G T pc Ls (.int x :: st) := Fx.via (fun _ => XS.istoreNS w.1 w.2 rfl hd rfl hold ho) g
theorem astoreG (w : Ok κ T) {k : Nat} {o' : Slot} {a : Addr} (hd : decode κ.c.code pc = .ok (.astore k, 2)) (hold : Ls[k]? = some o') (ho : One o') (g : Go κ G T (pc + 2) (Ls.setIfInBounds k (.val (.ref a))) st) : Go κ G T pc Ls (.ref a :: st) := Fx.via (fun _ => XS.astoreS w.1 w.2 rfl hd rfl rfl rfl hold ho) g
end Branch
end Jvm.WK
namespace Jvm.WK
open Sem ClassFile Op Lib Jvm.Stand Jvm.Free Jvm.LawKit Jvm.RoadKit Bundle
/-! WKN: the narrow walk's relation: CHr, and the tables have only warmed -/
def Nw (vm vm' : Vm) : Prop := ∀ s : State, s.vm = vm → s.WarmedH vm'
theorem Nw.refl (vm : Vm) : Nw vm vm := fun s h => by subst h; exact State.WarmedH.refl s
theorem Nw.trans {a b c : Vm} (h1 : Nw a b) (h2 : Nw b c) : Nw a c := fun s h => State.WarmedH.trans (t := s.setVm b) (h1 s h) (h2 (s.setVm b) rfl)
def CVn (Z : State) (EL : List (String × Nat)) (vm : Vm) (h : Heap) : Prop := CHv Z EL vm h ∧ Nw Z.vm vm
def CRn (Z : State) (EL : List (String × Nat)) (vm : Vm) (h : Heap) (vm' : Vm) (h' : Heap) : Prop := CVn Z EL vm' h' ∧ CHr Z EL vm h vm' h' ∧ Nw vm vm'
section CRnFacts
variable {Z : State} {EL : List (String × Nat)} {vm vm1 vm2 : Vm} {h h' h2 : Heap}
theorem CVn.keep {ws : List Addr} (K : Keep h h' ws) (hs : ∀ x ∈ ws, Safe Z EL vm h x) (H : CVn Z EL vm h) : CVn Z EL vm h' := ⟨H.1.keep K hs, H.2⟩
theorem CRn.refl (H : CVn Z EL vm h) : CRn Z EL vm h vm h := ⟨H, CHr.refl H.1, Nw.refl vm⟩
theorem CRn.trans (A : CRn Z EL vm h vm1 h') (B : CRn Z EL vm1 h' vm2 h2) : CRn Z EL vm h vm2 h2 := ⟨B.1, A.2.1.trans B.2.1, A.2.2.trans B.2.2⟩
theorem CRn.safe (A : CRn Z EL vm h vm1 h') {x : Addr} (hx : x < h.size) (S : Safe Z EL vm h x) : Safe Z EL vm1 h' x := A.2.1.safe hx S
theorem CRn.ext (E : Ext h h') (H : CVn Z EL vm h) : CRn Z EL vm h vm h' := ⟨⟨H.1.ext E, H.2⟩, CHr.ext E H.1, Nw.refl vm⟩
theorem CRn.keep {ws : List Addr} (K : Keep h h' ws) (hs : ∀ x ∈ ws, Safe Z EL vm h x) (H : CVn Z EL vm h) : CRn Z EL vm h vm h' := ⟨H.keep K hs, CHr.keep K hs H.1, Nw.refl vm⟩
theorem CRn.wr {a : Addr} {sl : Nat} {v : Value} (W : Wr h h' a sl v) (S : Safe Z EL vm h a) (H : CVn Z EL vm h) : CRn Z EL vm h vm h' := ⟨⟨H.1.wr W S, H.2⟩, CHr.wr W S H.1, Nw.refl vm⟩
theorem CRn.at {p : Program} {l : Launch} {e : Env} {R : Room} {s : State} {m : MethodId} {args : Array Value} {below : List Frame} {meth : Method} {c : Code} {T : State} {locs : List Loc} {cells slots : Nat} {a0 : Array Value} (X : Stand p l e R (s.setVm vm) m args below meth c T locs cells slots) (hZ : Z.Warmed39 vm) (w : EW Z a0 EL) (H : CVn Z EL vm h) : CRn Z EL vm h T.vm h :=
  have n : Nw vm T.vm := fun u hu => State.WarmedH.of_rootvm (s := s.setVm vm) hu X.warmed
  ⟨⟨(CHv.at X hZ w H.1).1, H.2.trans n⟩, CHv.at X hZ w H.1, n⟩
end CRnFacts
end Jvm.WK
namespace Jvm.WK
open Sem ClassFile Op Lib Jvm.Stand Jvm.Free Jvm.LawKit Jvm.RoadKit Bundle
theorem wd {L : List Jvm.Cond} {a0 : Array Value} {Z : State} (hw : ∀ d ∈ L, d.before a0 Z = true) (k : Nat) {d : Jvm.Cond} (h : L[k]? = some d) : d.before a0 Z = true := hw d (List.mem_of_getElem? h)
/-- an array of ints (or chars, bytes ..) with its values -/
def Ary (Z : State) (h : Heap) (a : Addr) (ty : FieldType) (vs : List Int32) : Prop :=
  ∃ c : Cell, Arr Z h a c ty ∧ c.slots.toList = vs.map Value.int ∧ vs.length < 2147483648 ∧ ∀ v ∈ vs, fits ty (.int v) = true
section AryFacts
variable {Z : State} {h h' : Heap} {a b : Addr} {ty : FieldType} {vs : List Int32} {ws : List Addr} {sl : Nat} {v : Value}
theorem Ary.lt (F : Ary Z h a ty vs) : a < h.size := by obtain ⟨c, A, -⟩ := F; exact A.lt
theorem Ary.ext (E : Ext h h') (F : Ary Z h a ty vs) : Ary Z h' a ty vs := by obtain ⟨c, A, r⟩ := F; exact ⟨c, A.ext E, r⟩
theorem Ary.other (W : Wr h h' b sl v) (F : Ary Z h a ty vs) (q : a ≠ b) : Ary Z h' a ty vs := by obtain ⟨c, A, r⟩ := F; exact ⟨c, A.other W q, r⟩
theorem Ary.keep (K : Keep h h' ws) (F : Ary Z h a ty vs) (q : a ∉ ws) : Ary Z h' a ty vs := by obtain ⟨c, A, r⟩ := F; exact ⟨c, ⟨K.2.1 a c A.1 q, A.2⟩, r⟩
theorem Ary.small (F : Ary Z h a ty vs) : vs.length < 2147483648 := by obtain ⟨c, A, r1, r2, -⟩ := F; exact r2
theorem Ary.fit (F : Ary Z h a ty vs) : ∀ v ∈ vs, fits ty (.int v) = true := by obtain ⟨c, A, r1, r2, r3⟩ := F; exact r3
theorem clamp_ofNat {i : Nat} (h : i < 2147483648) : (Int32.ofNat i).toNatClampNeg = i := by
  have h1 : (Int32.ofNat i).toInt = (i : Int) := Int32.toInt_ofNat_small (by omega)
  show (Int32.ofNat i).toInt.toNat = i
  rw [h1]; rfl
theorem nneg_ofNat {i : Nat} (h : i < 2147483648) : ¬ (Int32.ofNat i) < 0 := by
  have h1 : (Int32.ofNat i).toInt = (i : Int) := Int32.toInt_ofNat_small (by omega)
  rw [Int32.lt_iff_toInt_lt, h1]
  show ¬ ((i : Int) < 0)
  omega
theorem Ary.inb {c : Cell} {i : Nat} (hs : c.slots.toList = vs.map Value.int) (hl : vs.length < 2147483648) (hi : i < vs.length) : ¬ (Int32.ofNat i < 0 ∨ c.slots.size ≤ (Int32.ofNat i).toNatClampNeg) := by
  have hz : c.slots.size = vs.length := by
    have := congrArg List.length hs
    simpa using this
  rw [clamp_ofNat (by omega)]
  have := nneg_ofNat (i := i) (by omega)
  exact fun q => q.elim this (fun q => by omega)
theorem Ary.at {c : Cell} {i : Nat} (hs : c.slots.toList = vs.map Value.int) (hl : vs.length < 2147483648) (hi : i < vs.length) {x : Int32} (hx : vs[i]? = some x) : c.slots[(Int32.ofNat i).toNatClampNeg]? = some (.int x) := by
  rw [clamp_ofNat (by omega)]
  have : c.slots[i]? = c.slots.toList[i]? := by simp
  rw [this, hs]
  simp [hx]
theorem Ary.arv (F : Ary Z h a ty vs) : ∃ k, Arv Z h a k ty (Int32.ofNat vs.length) (vs.map Value.int) (.int 0) := by
  obtain ⟨c, A, r1, r2, r3⟩ := F
  have hz : c.slots.size = vs.length := by
    have := congrArg List.length r1
    simpa using this
  have H : Has c (vs.map Value.int) (.int 0) := fun k hk => by
    have : c.slots[k]? = c.slots.toList[k]? := by simp
    rw [this, r1]
    have hk' : k < vs.length := by omega
    simp [List.getD, hk']
  refine ⟨c.cls, c, A, rfl, by rw [hz, clamp_ofNat r2], nneg_ofNat r2, H, fun i hi => ?_⟩
  have hi' : i < vs.length := by omega
  simp only [List.getD, List.getElem?_map, List.getElem?_eq_getElem hi', Option.map_some, Option.getD_some]
  exact r3 _ (List.getElem_mem hi')
theorem Ary.of_arv {k : ClassId} {z : Int32} (hz : z.toNatClampNeg = vs.length) (F : Arv Z h a k ty z (vs.map Value.int) (.int 0)) : Ary Z h a ty vs := by
  obtain ⟨c, A, r1, r2, r3, H, r4⟩ := F
  have hs : c.slots.size = vs.length := r2.trans hz
  have hb := (back32 r3).2
  refine ⟨c, A, ?_, by omega, fun v hv => ?_⟩
  · apply List.ext_getElem?
    intro i
    by_cases hi : i < c.slots.size
    · have := H i hi
      have e : c.slots[i]? = c.slots.toList[i]? := by simp
      rw [← e, this]
      have hi' : i < vs.length := by omega
      simp [List.getD, hi']
    · rw [List.getElem?_eq_none (by simpa using Nat.le_of_not_lt hi), List.getElem?_eq_none (by simp; omega)]
  · obtain ⟨i, hi, rfl⟩ := List.getElem_of_mem hv
    have := r4 i (by omega)
    simpa [List.getD, hi] using this
theorem Ary.set {x : Int32} {i : Nat} (F : Ary Z h a ty vs) (hi : i < vs.length) (hx : fits ty (.int x) = true) (Wq : Wr h h' a (Int32.ofNat i).toNatClampNeg (.int x)) : Ary Z h' a ty (vs.set i x) := by
  obtain ⟨c, A, r1, r2, r3⟩ := F
  refine ⟨c.setSlot (Int32.ofNat i).toNatClampNeg (.int x), A.same Wq, ?_, by simpa using r2, fun v hv => ?_⟩
  · rw [clamp_ofNat (by omega)]
    simp [Cell.setSlot, r1, List.map_set]
  · rcases List.mem_or_eq_of_mem_set hv with q | q
    · exact r3 v q
    · rw [q]; exact hx
theorem Ary.new {k : ClassId} {z : Int32} {n : Nat} (A : Arr Z h a (newA k ty z) ty) (hn : z.toNatClampNeg = n) (hb : n < 2147483648) (hd : defaultValue ty = .int 0) (hf : fits ty (.int 0) = true) : Ary Z h a ty (List.replicate n 0) := by
  refine ⟨_, A, by simp [newA, hn, hd], by simpa using hb, fun v hv => ?_⟩
  rw [(List.mem_replicate.mp hv).2]; exact hf
theorem Ary.ne_ty {ty' : FieldType} {vs' : List Int32} (F : Ary Z h a ty vs) (F' : Ary Z h b ty' vs') (q : ty ≠ ty') : a ≠ b := fun e => by
  subst e
  obtain ⟨c, ⟨A1, ⟨-, k, A2, comp, A3⟩, -⟩, -⟩ := F
  obtain ⟨c', ⟨B1, ⟨-, k', B2, comp', B3⟩, -⟩, -⟩ := F'
  cases A1.symm.trans B1
  cases A2.symm.trans B2
  rw [A3] at B3
  cases B3; exact q rfl
theorem Ary.safe {EL : List (String × Nat)} {vm : Vm} (hal : Z.vm.Alike vm) (F : Ary Z h a ty vs) (q : ty ≠ .byte) : Safe Z EL vm h a := by obtain ⟨c, A, -⟩ := F; exact Safe.arr hal A q
end AryFacts
theorem safe_nil {Z : State} {vm : Vm} {h : Heap} {x : Addr} : Safe Z [] vm h x := fun B => by obtain ⟨p, hp, -⟩ := B; cases hp
/-- where the walk stands: s the invocation's start, vm the tables of its last interning, Z the case's start -/
def W (κ : Cx) (l : Launch) (R : Room) (Z : State) (EL : List (String × Nat)) (own nm : String) (mx : Nat) (rt : Option FieldType) (vm : Vm) (T : State) (h : Heap) (k n : Nat) : Prop :=
  (κ.p.tables.exec = Jvm.exec ∧ κ.c.maxLocals = mx ∧ κ.M.sig.returnType = rt ∧ κ.M.locks = false ∧ κ.M.name = nm ∧ ∃ a0, EW Z a0 EL) ∧
  ∃ (locs : List Loc) (k0 : Nat), Stand κ.p l κ.e R (κ.s.setVm vm) κ.m κ.a κ.b κ.M κ.c T locs k n ∧ T.heap = h ∧ κ.s.Since vm k0 ∧ k0 ≤ h.size ∧ Z.Warmed39 vm ∧ vm.findClass own = some κ.m.cls ∧ Fr Z.heap.size locs ∧ CRn Z EL κ.s.vm κ.s.heap vm h
/-- what an invocation owes at its end -/
def GQ (κ : Cx) (Z : State) (EL : List (String × Nat)) (rm : Room) (Q : Option Value → Heap → (Addr → Prop) → Prop) : Option Value → State → Prop :=
  fun v B => ∃ L, (Q v B.heap (Safe Z EL B.vm B.heap) ∧ Fr Z.heap.size L) ∧ CRn Z EL κ.s.vm κ.s.heap B.vm B.heap ∧ ReturnedEndW κ.s (.returned v) B L rm.cells rm.slots
/-- a contract -/
def Ctr (l : Launch) (Z : State) (EL : List (String × Nat)) (y : MethodName) (bytes : ByteArray) (maxL : Nat) (ret : Option FieldType) (ws : List Jvm.Cond) (rm : Room) (sf : List Addr) (as' : Array Value) (h : Heap) (Q : Option Value → Heap → (Addr → Prop) → Prop) : Prop :=
  MetFree l y (head1 (Jvm.Cond.code y bytes maxL ret :: ws) rm) (fun a U => a = as' ∧ Z.Warmed39 U.vm ∧ U.heap = h ∧ CVn Z EL U.vm h ∧ ∀ x ∈ sf, Safe Z EL U.vm h x) (fun _ _ _ _ _ => True) (fun _ U o U' => ∃ v L, o = .returned v ∧ (Q v U'.heap (Safe Z EL U'.vm U'.heap) ∧ Fr Z.heap.size L) ∧ CRn Z EL U.vm U.heap U'.vm U'.heap ∧ ReturnedEndW U o U' L rm.cells rm.slots)
theorem enter {l : Launch} {Z : State} {EL : List (String × Nat)} {y : MethodName} {bytes : ByteArray} {maxL : Nat} {ret : Option FieldType} {ws : List Jvm.Cond} {rm : Room} {sf : List Addr} {as' : Array Value} {h : Heap} {Q : Option Value → Heap → (Addr → Prop) → Prop} {a0 : Array Value} (hpl : plainName y.cls = true) (hEL : EW Z a0 EL) {Ls : Array Slot} (hef : ∀ m, entryFrame m as' maxL = mkF m 0 Ls [])
    (body : ∀ (κ : Cx) (vm : Vm) (T : State), κ.c.code = bytes → κ.s.heap = h → W κ l rm Z EL y.cls y.name maxL ret vm T h 0 0 → (∀ x ∈ sf, Safe Z EL vm h x) → Go κ (GQ κ Z EL rm Q) T 0 Ls []) : Ctr l Z EL y bytes maxL ret ws rm sf as' h Q := by
  refine MetFree.of_bodySF (plainFor_of_name hpl) hisR ?_
  intro p e s m args below meth c s₁ Bd hml hP hK
  obtain ⟨rfl, hZ, hh, hC, hSf⟩ := hP
  have hown : s.vm.findClass y.cls = some m.cls := findClass_of_methodNamed Bd.named
  have hnm := (name_of_methodNamed Bd.named Bd.method).1
  have X0 : Stand p l e rm s m args below meth c s₁ [] 0 0 := Stand.of_body Bd
  have e0 : s₁.heap = h := by rw [← hh, Bd.state]; rfl
  have w : W (p, e, s, m, args, below, meth, c) l rm Z EL y.cls y.name maxL ret s.vm s₁ h 0 0 :=
    ⟨⟨Bd.exec, hml, Bd.returns, Bd.notSynchronized, hnm, a0, hEL⟩, [], s.heap.size, X0, e0, (State.WarmedH.refl s).since _, by rw [hh]; exact Nat.le_refl _, hZ, hown, Fr.nil _, by rw [hh]; exact CRn.refl hC⟩
  obtain ⟨v, B, h1, h2, h3, L, h4, h5, h6⟩ := body (p, e, s, m, args, below, meth, c) s.vm s₁ Bd.bytes hh w hSf
  refine ⟨B, .returned v, castTop (hef m) h1, h2, h3, v, L, rfl, h4, h5, h6⟩
section Laws
variable {κ : Cx} {l : Launch} {R : Room} {Z : State} {EL : List (String × Nat)} {own nm : String} {mx : Nat} {rt : Option FieldType} {vm : Vm} {T : State} {h : Heap} {k n : Nat} {G : Option Value → State → Prop} {a0 : Array Value} {pc : Nat} {Ls : Array Slot} {st : List Value}
theorem W.ok (w : W κ l R Z EL own nm mx rt vm T h k n) : Ok κ T := by obtain ⟨w1, _, _, X, -⟩ := w; exact ⟨X.here, w1.1⟩
theorem W.cvn (w : W κ l R Z EL own nm mx rt vm T h k n) : CVn Z EL vm h := by obtain ⟨w1, _, _, X, -, -, -, -, -, -, C⟩ := w; exact C.1
theorem W.chv (w : W κ l R Z EL own nm mx rt vm T h k n) : CHv Z EL vm h := w.cvn.1
theorem W.warm (w : W κ l R Z EL own nm mx rt vm T h k n) : Z.Warmed39 vm := by obtain ⟨w1, _, _, X, -, -, -, hZ, -⟩ := w; exact hZ
theorem W.alike (w : W κ l R Z EL own nm mx rt vm T h k n) : Z.vm.Alike vm := w.warm.alike
theorem W.mono (w : W κ l R Z EL own nm mx rt vm T h k n) {k' n' : Nat} (hk : k ≤ k') (hn : n ≤ n') : W κ l R Z EL own nm mx rt vm T h k' n' := by
  obtain ⟨w1, L, k0, X, r⟩ := w; exact ⟨w1, L, k0, X.mono hk hn, r⟩
theorem W.heap (w : W κ l R Z EL own nm mx rt vm T h k n) : T.heap = h := by obtain ⟨w1, _, _, X, e, -⟩ := w; exact e
/-- all that stood at the case's start stands as it was -/
theorem W.old (w : W κ l R Z EL own nm mx rt vm T h k n) (o : Ext Z.heap κ.s.heap) : Ext Z.heap h := by
  obtain ⟨w1, L, k0, X, e, -, -, -, -, N, -⟩ := w
  subst e
  refine ⟨Nat.le_trans o.1 X.same.2.1, fun b cl hb => ?_⟩
  obtain ⟨c', h1, h2, -, h4⟩ := X.same.2.2.2.2.2 b cl (o.2 _ _ hb)
  have hlt := (Array.getElem?_eq_some_iff.mp hb).1
  have hsl : c'.slots = cl.slots := Array.ext_getElem? fun i => h4 i fun hm => absurd (N _ hm) (Nat.not_le.mpr hlt)
  have hcc : c' = cl := by rw [h2, hsl]
  rw [← hcc]; exact h1
/-- a step that keeps vm: the heap only grows -/
theorem W.grow {T' : State} {h' : Heap} {k' n' : Nat} (w : W κ l R Z EL own nm mx rt vm T h k n) (E : Ext h h') (eT : T'.heap = h') (hX : ∀ locs, Stand κ.p l κ.e R (κ.s.setVm vm) κ.m κ.a κ.b κ.M κ.c T locs k n → Stand κ.p l κ.e R (κ.s.setVm vm) κ.m κ.a κ.b κ.M κ.c T' locs k' n') : W κ l R Z EL own nm mx rt vm T' h' k' n' := by
  obtain ⟨w1, L, k0, X, e, hS, hk, hZ, ho, N, C⟩ := w
  exact ⟨w1, L, k0, hX L X, eT, hS, Nat.le_trans hk E.1, hZ, ho, N, C.trans (CRn.ext E C.1)⟩
theorem W.wrote {T' : State} {h' : Heap} {a : Addr} {sl : Nat} {v : Value} {locs : List Loc} {k0 : Nat} (w : W κ l R Z EL own nm mx rt vm T h k n) (hS : κ.s.Since vm k0) (hk : k0 ≤ h.size) (N : Fr Z.heap.size locs) (X : Stand κ.p l κ.e R (κ.s.setVm vm) κ.m κ.a κ.b κ.M κ.c T' (locs ++ [⟨a, sl⟩]) k n) (eT : T'.heap = h') (Wq : Wr h h' a sl v) (S : Safe Z EL vm h a) (ha : Z.heap.size ≤ a) : W κ l R Z EL own nm mx rt vm T' h' k n := by
  obtain ⟨w1, -, -, -, -, -, -, hZ, ho, -, C⟩ := w
  exact ⟨w1, _, k0, X, eT, hS, by rw [Wq.size]; exact hk, hZ, ho, Fr.snoc X N ha, C.trans (CRn.wr Wq S C.1)⟩
theorem W.new (w : W κ l R Z EL own nm mx rt vm T h k n) {C : String} {index sz : Nat} (w1 : (Cond.classLink own index C).before a0 Z = true) (w2 : (Cond.instantiable C sz).before a0 Z = true) (w3 : (Cond.initialized C).before a0 Z = true)
    (hd : decode κ.c.code pc = .ok (.new index, 3)) (hc : k + 1 ≤ R.cells) (hl : n + sz ≤ R.slots)
    (g : ∀ (T' : State) (h' : Heap) (x : Addr), W κ l R Z EL own nm mx rt vm T' h' (k + 1) (n + sz) → x = h.size → Ext h h' → Exa Z h' x C → (∀ {O nm' d : String} {ty : FieldType}, Laid Z a0 C O nm' d → parseFieldDescriptor d = some ty → Fld Z h' x O nm' d (defaultValue ty)) → Safe Z EL vm h' x → Go κ G T' (pc + 3) Ls (.ref x :: st)) : Go κ G T pc Ls st := by
  have w0 := w
  obtain ⟨q1, L, k0, X, e, hS, hk, hZ, ho, N, CC⟩ := w
  obtain ⟨T', h', X', e', E, A, D, -, stp⟩ := newO X q1.1 hZ ho w1 w2 w3 e (g := mkF κ.m pc Ls st) rfl hd hc hl
  exact Fx.via stp (g T' h' h.size ⟨q1, L, k0, X', e', hS, Nat.le_trans hk E.1, hZ, ho, N, CC.trans (CRn.ext E CC.1)⟩ rfl E A D (Safe.ext E w0.chv (Safe.new (Nat.le_refl _))))
theorem W.newarr (w : W κ l R Z EL own nm mx rt vm T h k n) {aty : ArrayType} (w1 : (Cond.arrayClass (newarray.typeOf aty)).before a0 Z = true) {z : Int32} {c : Nat} (hd : decode κ.c.code pc = .ok (.newarray aty, 2)) (hn : ¬ z < 0) (hz : z.toNatClampNeg = c) {cap : Nat} (hcap : c ≤ cap) (hb : cap * 8 ≤ 536870912) (hc : k + 1 ≤ R.cells) (hl : n + cap ≤ R.slots) (hdv : defaultValue (newarray.typeOf aty) = .int 0) (hf : fits (newarray.typeOf aty) (.int 0) = true)
    (g : ∀ (T' : State) (h' : Heap) (x : Addr), W κ l R Z EL own nm mx rt vm T' h' (k + 1) (n + cap) → x = h.size → Ext h h' → Ary Z h' x (newarray.typeOf aty) (List.replicate c 0) → Safe Z EL vm h' x → Go κ G T' (pc + 2) Ls (.ref x :: st)) : Go κ G T pc Ls (.int z :: st) := by
  have w0 := w
  obtain ⟨q1, L, k0, X, e, hS, hk, hZ, ho, N, CC⟩ := w
  obtain ⟨T', h', cA, X', e', E, A, stp⟩ := newP X q1.1 hZ w1 e (g := mkF κ.m pc Ls (.int z :: st)) rfl hd rfl hn (by rw [hz]; exact hcap) hb hc hl
  exact Fx.via stp (g T' h' h.size ⟨q1, L, k0, X', e', hS, Nat.le_trans hk E.1, hZ, ho, N, CC.trans (CRn.ext E CC.1)⟩ rfl E (Ary.new A hz (by omega) hdv hf) (Safe.ext E w0.chv (Safe.new (Nat.le_refl _))))
theorem W.get (w : W κ l R Z EL own nm mx rt vm T h k n) {O f d : String} {index : Nat} (w1 : (Cond.fieldLink own index O f d).before a0 Z = true) {a : Addr} {v : Value} (F : Fld Z h a O f d v) (hd : decode κ.c.code pc = .ok (.getfield index, 3))
    (g : ∀ T' : State, W κ l R Z EL own nm mx rt vm T' h k n → Go κ G T' (pc + 3) Ls (v :: st)) : Go κ G T pc Ls (.ref a :: st) := by
  obtain ⟨q1, L, k0, X, e, hS, hk, hZ, ho, N, CC⟩ := w
  obtain ⟨T', X', e', stp⟩ := getF X q1.1 hZ ho (host := "") (Or.inl w1) Via.refl e F (g := mkF κ.m pc Ls (.ref a :: st)) rfl rfl hd
  exact Fx.via stp (g T' ⟨q1, L, k0, X', e', hS, hk, hZ, ho, N, CC⟩)
theorem W.gets (w : W κ l R Z EL own nm mx rt vm T h k n) {O f d : String} {index : Nat} (w1 : (Cond.fieldLink own index O f d).before a0 Z = true) {v : Value} (F : Sta Z h O f d v) (hd : decode κ.c.code pc = .ok (.getstatic index, 3))
    (g : ∀ T' : State, W κ l R Z EL own nm mx rt vm T' h k n → Go κ G T' (pc + 3) Ls (v :: st)) : Go κ G T pc Ls st := by
  obtain ⟨q1, L, k0, X, e, hS, hk, hZ, ho, N, CC⟩ := w
  obtain ⟨T', X', e', stp⟩ := getS X q1.1 hZ ho (host := "") w1 Via.refl e F (g := mkF κ.m pc Ls st) rfl hd
  exact Fx.via stp (g T' ⟨q1, L, k0, X', e', hS, hk, hZ, ho, N, CC⟩)
theorem W.put (w : W κ l R Z EL own nm mx rt vm T h k n) {O f d C : String} {index kk : Nat} {ty : FieldType} (w1 : (Cond.fieldLink own index O f d).before a0 Z = true) {a : Addr} {v old : Value} (F : Fld Z h a O f d old) (E : Exa Z h a C) (Lw : (Cond.lays C O f d).before a0 Z = true ∨ ((Cond.laysFinal C O f d).before a0 Z = true ∧ own = O ∧ nm = "<init>")) (wi : (Cond.instantiable C kk).before a0 Z = true)
    (hty : parseFieldDescriptor d = some ty) (hn : narrow ty v = v) (hf : fits ty v = true) (S : Safe Z EL vm h a) (ha : Z.heap.size ≤ a) (hd : decode κ.c.code pc = .ok (.putfield index, 3))
    (g : ∀ (T' : State) (h' : Heap), W κ l R Z EL own nm mx rt vm T' h' k n → Wr h h' a (RoadKit.slotOf Z O f d) v → Safe Z EL vm h' a → Go κ G T' (pc + 3) Ls st) : Go κ G T pc Ls (v :: .ref a :: st) := by
  have w0 := w
  obtain ⟨q1, L, k0, X, e, hS, hk, hZ, ho, N, CC⟩ := w
  obtain ⟨T', h', X', e', Wq, stp⟩ := putF X q1.1 hZ ho (host := "") (Or.inl w1) Via.refl e F E (Lw.imp id fun q => ⟨q.1, q.2.1, by rw [q1.2.2.2.2.1]; exact q.2.2⟩) wi hty hn hf (g := mkF κ.m pc Ls (v :: .ref a :: st)) rfl rfl hd
  exact Fx.via stp (g T' h' (w0.wrote hS hk N X' e' Wq S ha) Wq (Safe.wr Wq S w0.chv S))
theorem W.cst (w : W κ l R Z EL own nm mx rt vm T h k n) {a : Addr} {vs : List Int32} (A : Ary Z h a .char vs) {i : Nat} {j x x' : Int32} (hj : j = Int32.ofNat i) (hi : i < vs.length) (hx : nar .char x = x') (hf : fits .char (.int x') = true) (ha : Z.heap.size ≤ a) (hd : decode κ.c.code pc = .ok (.castore, 1))
    (g : ∀ (T' : State) (h' : Heap), W κ l R Z EL own nm mx rt vm T' h' k n → (∃ sl v, Wr h h' a sl v) → Ary Z h' a .char (vs.set i x') → Go κ G T' (pc + 1) Ls st) : Go κ G T pc Ls (.int x :: .int j :: .ref a :: st) := by
  have w0 := w
  have A0 := A
  subst hj hx
  obtain ⟨q1, L, k0, X, e, hS, hk, hZ, ho, N, CC⟩ := w
  obtain ⟨c, A1, r1, r2, -⟩ := A
  obtain ⟨T', h', X', e', Wq, stp⟩ := stC X q1.1 hZ e A1 (Ary.inb r1 r2 hi) (g := mkF κ.m pc Ls (.int x :: .int (Int32.ofNat i) :: .ref a :: st)) rfl rfl hd
  exact Fx.via stp (g T' h' (w0.wrote hS hk N X' e' Wq (A0.safe w0.alike (by decide)) ha) ⟨_, _, Wq⟩ (A0.set hi hf Wq))
theorem W.bst (w : W κ l R Z EL own nm mx rt vm T h k n) {a : Addr} {vs : List Int32} (A : Ary Z h a .byte vs) {i : Nat} {j x x' : Int32} (hj : j = Int32.ofNat i) (hi : i < vs.length) (hx : nar .byte x = x') (hf : fits .byte (.int x') = true) (S : Safe Z EL vm h a) (ha : Z.heap.size ≤ a) (hd : decode κ.c.code pc = .ok (.bastore, 1))
    (g : ∀ (T' : State) (h' : Heap), W κ l R Z EL own nm mx rt vm T' h' k n → (∃ sl v, Wr h h' a sl v) → Ary Z h' a .byte (vs.set i x') → Safe Z EL vm h' a → Go κ G T' (pc + 1) Ls st) : Go κ G T pc Ls (.int x :: .int j :: .ref a :: st) := by
  have w0 := w
  have A0 := A
  subst hj hx
  obtain ⟨q1, L, k0, X, e, hS, hk, hZ, ho, N, CC⟩ := w
  obtain ⟨c, A1, r1, r2, -⟩ := A
  obtain ⟨T', h', X', e', Wq, stp⟩ := stB X q1.1 hZ e A1 (Ary.inb r1 r2 hi) (g := mkF κ.m pc Ls (.int x :: .int (Int32.ofNat i) :: .ref a :: st)) rfl rfl hd
  exact Fx.via stp (g T' h' (w0.wrote hS hk N X' e' Wq S ha) ⟨_, _, Wq⟩ (A0.set hi hf Wq) (Safe.wr Wq S w0.chv S))
theorem W.ist (w : W κ l R Z EL own nm mx rt vm T h k n) {a : Addr} {vs : List Int32} (A : Ary Z h a .int vs) {i : Nat} {j x : Int32} (hj : j = Int32.ofNat i) (hi : i < vs.length) (ha : Z.heap.size ≤ a) (hd : decode κ.c.code pc = .ok (.iastore, 1))
    (g : ∀ (T' : State) (h' : Heap), W κ l R Z EL own nm mx rt vm T' h' k n → (∃ sl v, Wr h h' a sl v) → Ary Z h' a .int (vs.set i x) → Go κ G T' (pc + 1) Ls st) : Go κ G T pc Ls (.int x :: .int j :: .ref a :: st) := by
  have w0 := w
  have A0 := A
  subst hj
  obtain ⟨q1, L, k0, X, e, hS, hk, hZ, ho, N, CC⟩ := w
  obtain ⟨c, A1, r1, r2, -⟩ := A
  obtain ⟨T', h', X', e', Wq, stp⟩ := stI X q1.1 hZ e A1 (Ary.inb r1 r2 hi) (g := mkF κ.m pc Ls (.int x :: .int (Int32.ofNat i) :: .ref a :: st)) rfl rfl hd
  exact Fx.via stp (g T' h' (w0.wrote hS hk N X' e' Wq (A0.safe w0.alike (by decide)) ha) ⟨_, _, Wq⟩ (A0.set hi rfl Wq))
theorem W.len (w : W κ l R Z EL own nm mx rt vm T h k n) {a : Addr} {ty : FieldType} {vs : List Int32} (A : Ary Z h a ty vs) (hd : decode κ.c.code pc = .ok (.arraylength, 1)) (g : Go κ G T (pc + 1) Ls (.int (Int32.ofNat vs.length) :: st)) : Go κ G T pc Ls (.ref a :: st) := by
  obtain ⟨q1, L, k0, X, e, hS, hk, hZ, ho, N, CC⟩ := w
  obtain ⟨c, A1, r1, r2, -⟩ := A
  have hz : c.slots.size = vs.length := by
    have := congrArg List.length r1
    simpa using this
  refine Fx.via (fun t z => X.arraylength q1.1 (cell := c) (by rw [e]; exact A1.1) (State.isArrayOf_alike hZ.alike A1.2.1) (g := mkF κ.m pc Ls (.ref a :: st)) rfl rfl hd t ?_) g
  rw [hz]; exact z
theorem W.cld (w : W κ l R Z EL own nm mx rt vm T h k n) {a : Addr} {vs : List Int32} (A : Ary Z h a .char vs) {i : Nat} {j x : Int32} (hj : j = Int32.ofNat i) (hx : vs[i]? = some x) (hd : decode κ.c.code pc = .ok (.caload, 1)) (g : Go κ G T (pc + 1) Ls (.int x :: st)) : Go κ G T pc Ls (.int j :: .ref a :: st) := by
  subst hj
  obtain ⟨q1, L, k0, X, e, hS, hk, hZ, ho, N, CC⟩ := w
  obtain ⟨c, A1, r1, r2, -⟩ := A
  have hi : i < vs.length := (List.getElem?_eq_some_iff.mp hx).1
  exact Fx.via (fun t z => X.caload q1.1 (cell := c) (by rw [e]; exact A1.1) (State.isArrayOf_alike hZ.alike A1.2.1) A1.2.2 (Ary.inb r1 r2 hi) (Ary.at r1 r2 hi hx) (g := mkF κ.m pc Ls (.int (Int32.ofNat i) :: .ref a :: st)) rfl rfl hd t z) g
theorem W.bld (w : W κ l R Z EL own nm mx rt vm T h k n) {a : Addr} {vs : List Int32} (A : Ary Z h a .byte vs) {i : Nat} {j x : Int32} (hj : j = Int32.ofNat i) (hx : vs[i]? = some x) (hd : decode κ.c.code pc = .ok (.baload, 1)) (g : Go κ G T (pc + 1) Ls (.int x :: st)) : Go κ G T pc Ls (.int j :: .ref a :: st) := by
  subst hj
  obtain ⟨q1, L, k0, X, e, hS, hk, hZ, ho, N, CC⟩ := w
  obtain ⟨c, A1, r1, r2, -⟩ := A
  have hi : i < vs.length := (List.getElem?_eq_some_iff.mp hx).1
  exact Fx.via (fun t z => X.baloadBytes q1.1 (cell := c) (by rw [e]; exact A1.1) (State.isArrayOf_alike hZ.alike A1.2.1) A1.2.2 (Ary.inb r1 r2 hi) (Ary.at r1 r2 hi hx) (g := mkF κ.m pc Ls (.int (Int32.ofNat i) :: .ref a :: st)) rfl rfl hd t z) g
theorem W.ild (w : W κ l R Z EL own nm mx rt vm T h k n) {a : Addr} {vs : List Int32} (A : Ary Z h a .int vs) {i : Nat} {j x : Int32} (hj : j = Int32.ofNat i) (hx : vs[i]? = some x) (hd : decode κ.c.code pc = .ok (.iaload, 1)) (g : Go κ G T (pc + 1) Ls (.int x :: st)) : Go κ G T pc Ls (.int j :: .ref a :: st) := by
  subst hj
  obtain ⟨q1, L, k0, X, e, hS, hk, hZ, ho, N, CC⟩ := w
  obtain ⟨c, A1, r1, r2, -⟩ := A
  have hi : i < vs.length := (List.getElem?_eq_some_iff.mp hx).1
  exact Fx.via (fun t z => X.iaload q1.1 (cell := c) (by rw [e]; exact A1.1) (State.isArrayOf_alike hZ.alike A1.2.1) A1.2.2 (Ary.inb r1 r2 hi) (Ary.at r1 r2 hi hx) (g := mkF κ.m pc Ls (.int (Int32.ofNat i) :: .ref a :: st)) rfl rfl hd t z) g
theorem W.ldcI (w : W κ l R Z EL own nm mx rt vm T h k n) {index : Nat} {v : Int32} (w1 : (Cond.constant own index v).before a0 Z = true) (hd : decode κ.c.code pc = .ok (.ldc index, 2)) (g : Go κ G T (pc + 2) Ls (.int v :: st)) : Go κ G T pc Ls st := by
  obtain ⟨q1, L, k0, X, e, hS, hk, hZ, ho, N, CC⟩ := w
  exact Fx.via (fun t z => Stand.ldcI X q1.1 ho (mv (s := κ.s.setVm vm) hZ w1) (g := mkF κ.m pc Ls st) rfl hd z) g
theorem W.initO (w : W κ l R Z EL own nm mx rt vm T h k n) {idx : Nat} (w1 : (Cond.methodLink own idx Lib.objectInit).before a0 Z = true) (w2 : (Cond.instanceMethod Lib.objectInit).before a0 Z = true) (w3 : (Cond.code Lib.objectInit ⟨#[0xb1]⟩ 1 none).before a0 Z = true) {a : Addr} (hsz : Ls.size = mx) (hd : decode κ.c.code pc = .ok (.invokespecial idx, 3)) (hf : 1 ≤ R.frames) {Wd : Nat} (hW : (st.map fun v => v.category).sum ≤ Wd) (hl : Wd + 12 ≤ R.locals)
    (g : ∀ T' : State, W κ l R Z EL own nm mx rt vm T' h k n → Go κ G T' (pc + 3) Ls st) : Go κ G T pc Ls (.ref a :: st) := by
  obtain ⟨q1, L, k0, X, e, hS, hk, hZ, ho, N, CC⟩ := w
  obtain ⟨T', X', e', stp⟩ := RoadKit.initO X q1.1 hZ ho w1 w2 w3 e (g := mkF κ.m pc Ls (.ref a :: st)) rfl (by rw [q1.2.1]; exact hsz) rfl hd hf (W := Wd) (by show 2 * 0 + _ ≤ _; omega) hl
  exact Fx.via stp (g T' ⟨q1, L, k0, X', e', hS, hk, hZ, ho, N, CC⟩)
/-- what a call asks of its callee -/
abbrev BB (κ : Cx) (l : Launch) (R : Room) (Z : State) (EL : List (String × Nat)) (vm : Vm) (h : Heap) (y : MethodName) (len Wd : Nat) (as' : Array Value) (rc rs : Nat) (Q : Option Value → Heap → (Addr → Prop) → Prop) : Prop :=
  BackS l R κ.p κ.e κ.b (κ.s.setVm vm) κ.a y len Wd (fun A a => a = as' ∧ A.U.heap = h ∧ A.cells + rc ≤ R.cells ∧ A.slots + rs ≤ R.slots)
      (fun A _ v B => ∃ L, (Q v B.U.heap (Safe Z EL B.U.vm B.U.heap) ∧ Fr Z.heap.size L) ∧ B.locs = A.locs ++ L ∧ B.cells = A.cells + rc ∧ B.slots = A.slots + rs ∧ CRn Z EL vm h B.U.vm B.U.heap)
theorem Ctr.pays {y : MethodName} {bytes : ByteArray} {maxL : Nat} {ret : Option FieldType} {rm : Room} {sf : List Addr} {as' : Array Value} {Q : Option Value → Heap → (Addr → Prop) → Prop} {len Wd : Nat} (C : Ctr l Z EL y bytes maxL ret [] rm sf as' h Q) (w : W κ l R Z EL own nm mx rt vm T h k n)
    (wc : (Cond.code y bytes maxL ret).before a0 Z = true) (wz : (Cond.initialized y.cls).before a0 Z = true) (hEL : EW Z a0 EL) (hf : rm.frames + 1 ≤ R.frames) (hl : Wd + (maxL + 11) + rm.locals ≤ R.locals) (hsf : ∀ x ∈ sf, x < h.size ∧ Safe Z EL vm h x) : BB κ l R Z EL vm h y len Wd as' rm.cells rm.slots Q :=
  BackS.of_freeW (bytes := bytes) (maxL := maxL) (ret := ret) (E := fun _ first o t L k n => k = rm.cells ∧ n = rm.slots ∧ (∃ v, o = .returned v ∧ (Q v t.heap (Safe Z EL t.vm t.heap) ∧ Fr Z.heap.size L)) ∧ CRn Z EL first.vm first.heap t.vm t.heap) C hf hl
    (fun m meth c A a Y hp => have hU : Z.Warmed39 A.U.vm := wtrans (s := κ.s.setVm vm) w.warm Y.warmed
      ⟨by show (Cond.and _ .tt).before a A.U = true; rw [Cond.before_and, mv hU wc]; rfl, mv hU wc, mv hU wz, hp.2.2.1, hp.2.2.2⟩)
    (fun m meth c A a g mk Y hp => ⟨hp.1, wtrans (s := κ.s.setVm vm) w.warm Y.warmed, hp.2.1, (CRn.at Y w.warm hEL w.cvn).1, fun x hx => (CRn.at Y w.warm hEL w.cvn).safe (hsf x hx).1 (hsf x hx).2⟩) (fun _ _ _ _ _ _ _ _ _ => trivial)
    (fun _ _ _ _ ⟨v, L, h1, h2, h3, h4⟩ => ⟨L, _, _, h4, rfl, rfl, ⟨v, h1, h2⟩, h3⟩)
    (fun m meth c A a g mk v t L k n Y hp _ _ ⟨e1, e2, ⟨v', e3, e4⟩, e5⟩ => by
      cases e3; subst e1 e2
      refine ⟨L, e4, rfl, rfl, rfl, (CRn.at Y w.warm hEL w.cvn).trans ?_⟩
      rw [← hp.2.1]; exact e5)
theorem sfNil {vm : Vm} {h : Heap} : ∀ x ∈ ([] : List Addr), x < h.size ∧ Safe Z EL vm h x := fun _ q => nomatch q
theorem sfOne {vm : Vm} {h : Heap} {a : Addr} (h1 : a < h.size) (h2 : Safe Z EL vm h a) : ∀ x ∈ [a], x < h.size ∧ Safe Z EL vm h x := fun x q => by rw [List.mem_singleton.mp q]; exact ⟨h1, h2⟩
/-- a narrow payer (it interns nothing, and writes at most ws of what was there) -/
theorem BB.of_back {y : MethodName} {len Wd : Nat} {as' : Array Value} {rc rs : Nat} {Q0 : Option Value → Heap → List Loc → Prop} {Q : Option Value → Heap → (Addr → Prop) → Prop} (w : W κ l R Z EL own nm mx rt vm T h k n) (hEL : EW Z a0 EL)
    (hB : Back l R κ.p κ.e κ.b (κ.s.setVm vm) κ.a y len Wd (fun A a => a = as' ∧ A.U.heap = h ∧ A.cells + rc ≤ R.cells ∧ A.slots + rs ≤ R.slots) (fun A _ v B => ∃ L, Q0 v B.U.heap L ∧ B.locs = A.locs ++ L ∧ B.cells = A.cells + rc ∧ B.slots = A.slots + rs)) {ws : List Addr} (hs : ∀ x ∈ ws, Safe Z EL vm h x)
    (hQ : ∀ v h' L S, Q0 v h' L → Q v h' S ∧ Fr Z.heap.size L ∧ Keep h h' ws) : BB κ l R Z EL vm h y len Wd as' rc rs Q := by
  intro m meth c A g ig mk a X hg hsize hdg hW hn hp
  obtain ⟨v, B, X', ⟨L, h1, h2, h3, h4⟩, hsteps⟩ := hB m meth c A g ig mk a X hg hsize hdg hW hn hp
  obtain ⟨q1, q2, q3⟩ := hQ v B.U.heap L (Safe Z EL B.U.vm B.U.heap) h1
  refine ⟨v, B, X'.retabled X'.warmed.wide, X'.warmed.since _, by rw [hp.2.1]; exact q3.1, ⟨L, ⟨q1, q2⟩, h2, h3, h4, ?_⟩, hsteps⟩
  exact (CRn.keep q3 hs w.cvn).trans (CRn.at X' w.warm hEL (w.cvn.keep q3 hs))
theorem W.back (w : W κ l R Z EL own nm mx rt vm T h k n) {T' : State} {locs L : List Loc} {k' n' : Nat} (hk0 : ∃ k0, κ.s.Since vm k0 ∧ k0 ≤ h.size) (N : Fr Z.heap.size locs) (X' : Stand κ.p l κ.e R ((κ.s.setVm vm).setVm T'.vm) κ.m κ.a κ.b κ.M κ.c T' (locs ++ L) k' n') (hS : (κ.s.setVm vm).Since T'.vm T'.heap.size) (hgr : h.size ≤ T'.heap.size) (NL : Fr Z.heap.size L) (C : CRn Z EL vm h T'.vm T'.heap) : W κ l R Z EL own nm mx rt T'.vm T' T'.heap k' n' := by
  obtain ⟨w1, -, -, -, -, -, -, hZ, ho, -, CC⟩ := w
  obtain ⟨k0, hS0, hk⟩ := hk0
  obtain ⟨Y, hS', hZ', ho'⟩ := rebS (own := own) hS0 hk X' hS hgr hZ ho
  exact ⟨w1, _, _, Y, rfl, hS', Nat.le_refl _, hZ', ho', N.app NL, CC.trans C⟩
theorem W.callS (w : W κ l R Z EL own nm mx rt vm T h k n) {y : MethodName} {bytes : ByteArray} {maxL : Nat} {ret : Option FieldType} {index : Nat} (w1 : (Cond.methodLink own index y).before a0 Z = true) (w2 : (Cond.static y).before a0 Z = true) (w3 : (Cond.initialized y.cls).before a0 Z = true) (w4 : (Cond.code y bytes maxL ret).before a0 Z = true) (hy : y.cls ≠ "java/lang/invoke/MethodHandle" ∧ y.cls ≠ "java/lang/invoke/VarHandle")
    {argsL : List Value} {rc rs Wd : Nat} {Q : Option Value → Heap → (Addr → Prop) → Prop} (hK : BB κ l R Z EL vm h y 3 Wd argsL.toArray rc rs Q) {ps : List FieldType} {r0 : Option FieldType} (hde : parseMethodDescriptor y.desc = some ⟨ps, r0⟩) (hlen : argsL.length = ps.length) {st0 : List Value} (hst : st0 = argsL.reverse ++ st) (hsz : Ls.size = mx) (hW : (st.map fun v => v.category).sum ≤ Wd) (hd : decode κ.c.code pc = .ok (.invokestatic index, 3)) (hc : k + rc ≤ R.cells) (hl : n + rs ≤ R.slots)
    (g : ∀ (vm' : Vm) (T' : State) (h' : Heap) (v : Option Value), W κ l R Z EL own nm mx rt vm' T' h' (k + rc) (n + rs) → CRn Z EL vm h vm' h' → Q v h' (Safe Z EL vm' h') → Go κ G T' (pc + 3) Ls (v.toList ++ st)) : Go κ G T pc Ls st0 := by
  have w0 := w
  subst hst
  obtain ⟨q1, L, k0, X, e, hS, hk, hZ, ho, N, CC⟩ := w
  obtain ⟨v, vm₁, ⟨T', L', k', n'⟩, -, X', hS', hgr, ⟨L2, ⟨hQ, NL⟩, p1, p2, p3, p4⟩, stp⟩ := callSS X q1.1 ho (mvT (s := κ.s.setVm vm) hZ w1) (mvT (s := κ.s.setVm vm) hZ w2) (mvT (s := κ.s.setVm vm) hZ w3) (mvT (s := κ.s.setVm vm) hZ w4) hy hK (g := mkF κ.m pc Ls (argsL.reverse ++ st)) rfl (by rw [q1.2.1]; exact hsz) (argsL := argsL) (rest := st) (lenOf hde hlen) rfl (by show 2 * 0 + _ ≤ _; omega) hd (fun _ _ => ⟨rfl, e, hc, hl⟩)
  dsimp only [Pt.U, Pt.locs, Pt.cells, Pt.slots] at X' hS' hgr hQ p1 p2 p3 p4 stp
  subst p1 p2 p3
  exact Fx.after stp (g T'.vm T' T'.heap v (w0.back ⟨k0, hS, hk⟩ N X' hS' (by rw [← e]; exact hgr) NL p4) p4 hQ)
theorem W.callI (w : W κ l R Z EL own nm mx rt vm T h k n) {y : MethodName} {bytes : ByteArray} {maxL : Nat} {index : Nat} (hy1 : y.name = "<init>") (w1 : (Cond.methodLink own index y).before a0 Z = true) (w2 : (Cond.instanceMethod y).before a0 Z = true) (w4 : (Cond.code y bytes maxL none).before a0 Z = true) (hy : y.cls ≠ "java/lang/invoke/MethodHandle" ∧ y.cls ≠ "java/lang/invoke/VarHandle")
    {a : Addr} {argsL : List Value} {rc rs Wd : Nat} {Q : Option Value → Heap → (Addr → Prop) → Prop} (hK : BB κ l R Z EL vm h y 3 Wd (.ref a :: argsL).toArray rc rs Q) {ps : List FieldType} {r0 : Option FieldType} (hde : parseMethodDescriptor y.desc = some ⟨ps, r0⟩) (hlen : argsL.length = ps.length) {st0 : List Value} (hst : st0 = argsL.reverse ++ .ref a :: st) (hsz : Ls.size = mx) (hW : (st.map fun v => v.category).sum ≤ Wd) (hd : decode κ.c.code pc = .ok (.invokespecial index, 3)) (hc : k + rc ≤ R.cells) (hl : n + rs ≤ R.slots)
    (g : ∀ (vm' : Vm) (T' : State) (h' : Heap) (v : Option Value), W κ l R Z EL own nm mx rt vm' T' h' (k + rc) (n + rs) → CRn Z EL vm h vm' h' → Q v h' (Safe Z EL vm' h') → Go κ G T' (pc + 3) Ls (v.toList ++ st)) : Go κ G T pc Ls st0 := by
  have w0 := w
  subst hst
  obtain ⟨q1, L, k0, X, e, hS, hk, hZ, ho, N, CC⟩ := w
  obtain ⟨v, vm₁, ⟨T', L', k', n'⟩, -, X', hS', hgr, ⟨L2, ⟨hQ, NL⟩, p1, p2, p3, p4⟩, stp⟩ := X.specialBackS q1.1 hy1 ho (mvT (s := κ.s.setVm vm) hZ w1) (mvT (s := κ.s.setVm vm) hZ w2) (mvT (s := κ.s.setVm vm) hZ w4) hy hK (g := mkF κ.m pc Ls (argsL.reverse ++ .ref a :: st)) rfl (by rw [q1.2.1]; exact hsz) (Steps.refl _) (a := a) (argsL := argsL) (rest := st) (lenOf hde hlen) rfl (by show 2 * 0 + _ ≤ _; omega) hd (fun _ _ => ⟨rfl, e, hc, hl⟩)
  dsimp only [Pt.U, Pt.locs, Pt.cells, Pt.slots] at X' hS' hgr hQ p1 p2 p3 p4 stp
  subst p1 p2 p3
  exact Fx.after stp (g T'.vm T' T'.heap v (w0.back ⟨k0, hS, hk⟩ N X' hS' (by rw [← e]; exact hgr) NL p4) p4 hQ)
theorem W.callV (w : W κ l R Z EL own nm mx rt vm T h k n) {y z : MethodName} {C : String} {index : Nat} (w1 : (Cond.methodLink own index y).before a0 Z = true) (w2 : (Cond.declares y).before a0 Z = true) (hnf : ∀ s : State, Z.Warmed39 s.vm → NotFace s y) (w3 : (Cond.selects C y z).before a0 Z = true) (w4 : (Cond.instanceMethod z).before a0 Z = true) (hy : y.cls ≠ "java/lang/invoke/MethodHandle" ∧ y.cls ≠ "java/lang/invoke/VarHandle")
    {a : Addr} (E : Exa Z h a C) {argsL : List Value} {rc rs Wd : Nat} {Q : Option Value → Heap → (Addr → Prop) → Prop} (hK : BB κ l R Z EL vm h z 3 Wd (.ref a :: argsL).toArray rc rs Q) {ps : List FieldType} {r0 : Option FieldType} (hde : parseMethodDescriptor y.desc = some ⟨ps, r0⟩) (hlen : argsL.length = ps.length) {st0 : List Value} (hst : st0 = argsL.reverse ++ .ref a :: st) (hsz : Ls.size = mx) (hW : (st.map fun v => v.category).sum ≤ Wd) (hd : decode κ.c.code pc = .ok (.invokevirtual index, 3)) (hc : k + rc ≤ R.cells) (hl : n + rs ≤ R.slots)
    (g : ∀ (vm' : Vm) (T' : State) (h' : Heap) (v : Option Value), W κ l R Z EL own nm mx rt vm' T' h' (k + rc) (n + rs) → CRn Z EL vm h vm' h' → Q v h' (Safe Z EL vm' h') → Go κ G T' (pc + 3) Ls (v.toList ++ st)) : Go κ G T pc Ls st0 := by
  have w0 := w
  subst hst
  obtain ⟨q1, L, k0, X, e, hS, hk, hZ, ho, N, CC⟩ := w
  obtain ⟨cB, kB, i1, i2, i3⟩ := isOf (s := κ.s.setVm vm) hZ e E
  obtain ⟨v, vm₁, ⟨T', L', k', n'⟩, -, X', hS', hgr, ⟨L2, ⟨hQ, NL⟩, p1, p2, p3, p4⟩, stp⟩ := X.virtualBackS q1.1 ho (mvT (s := κ.s.setVm vm) hZ w1) (mvT (s := κ.s.setVm vm) hZ w2) (hnf (κ.s.setVm vm) hZ) (mvT (s := κ.s.setVm vm) hZ w3) (mvT (s := κ.s.setVm vm) hZ w4) hy hK i1 i3 (g := mkF κ.m pc Ls (argsL.reverse ++ .ref a :: st)) rfl (by rw [q1.2.1]; exact hsz) (Steps.refl _) (argsL := argsL) (rest := st) (lenOf hde hlen) rfl (by show 2 * 0 + _ ≤ _; omega) hd (fun _ _ => ⟨rfl, e, hc, hl⟩)
  dsimp only [Pt.U, Pt.locs, Pt.cells, Pt.slots] at X' hS' hgr hQ p1 p2 p3 p4 stp
  subst p1 p2 p3
  exact Fx.after stp (g T'.vm T' T'.heap v (w0.back ⟨k0, hS, hk⟩ N X' hS' (by rw [← e]; exact hgr) NL p4) p4 hQ)
theorem notFace {y : MethodName} {C : String} (w3 : (Cond.selects C y y).before a0 Z = true) : ∀ s : State, Z.Warmed39 s.vm → NotFace s y := fun s hZ => notFace_of_selects (args := #[]) (mvT hZ w3)
theorem W.instY (w : W κ l R Z EL own nm mx rt vm T h k n) {K : String} {index : Nat} (w1 : (Cond.classLink own index K).before a0 Z = true) {a : Addr} (F : Ins Z h a K true) (hd : decode κ.c.code pc = .ok (.instanceof index, 3))
    (g : ∀ T' : State, W κ l R Z EL own nm mx rt vm T' h k n → Go κ G T' (pc + 3) Ls (.int 1 :: st)) : Go κ G T pc Ls (.ref a :: st) := by
  obtain ⟨q1, L, k0, X, e, hS, hk, hZ, ho, N, CC⟩ := w
  obtain ⟨T', X', e', stp⟩ := RoadKit.instY X q1.1 hZ ho w1 e F (g := mkF κ.m pc Ls (.ref a :: st)) rfl rfl hd
  exact Fx.via stp (g T' ⟨q1, L, k0, X', e', hS, hk, hZ, ho, N, CC⟩)
theorem W.castY (w : W κ l R Z EL own nm mx rt vm T h k n) {K : String} {index : Nat} (w1 : (Cond.classLink own index K).before a0 Z = true) {a : Addr} (F : Ins Z h a K true) (hd : decode κ.c.code pc = .ok (.checkcast index, 3))
    (g : ∀ T' : State, W κ l R Z EL own nm mx rt vm T' h k n → Go κ G T' (pc + 3) Ls (.ref a :: st)) : Go κ G T pc Ls (.ref a :: st) := by
  obtain ⟨q1, L, k0, X, e, hS, hk, hZ, ho, N, CC⟩ := w
  obtain ⟨T', X', e', stp⟩ := RoadKit.castY X q1.1 hZ ho w1 e F (g := mkF κ.m pc Ls (.ref a :: st)) rfl rfl hd
  exact Fx.via stp (g T' ⟨q1, L, k0, X', e', hS, hk, hZ, ho, N, CC⟩)
theorem W.acmp (w : W κ l R Z EL own nm mx rt vm T h k n) {o : Int} {pc' : Nat} {a b : Addr} (hd : decode κ.c.code pc = .ok (.if_acmp .ne o, 3)) (ho : 0 ≤ (pc : Int) + o) (hp : ((pc : Int) + o).toNat = pc') (hT : ¬ a = b → Go κ G T pc' Ls st) (hF : a = b → Go κ G T (pc + 3) Ls st) : Go κ G T pc Ls (.ref b :: .ref a :: st) := by
  obtain ⟨q1, L, k0, X, e, hS, hk, hZ, ho', N, CC⟩ := w
  by_cases q : a = b
  · exact Fx.via (fun t z => RoadKit.acmp X q1.1 rfl (cd := .ne) (x := .ref a) (y := .ref b) rfl rfl (same := true) rfl hd rfl (by simp [q]) ho (pc' := pc + 3) (by simp [acV]) z) (hF q)
  · exact Fx.via (fun t z => RoadKit.acmp X q1.1 rfl (cd := .ne) (x := .ref a) (y := .ref b) rfl rfl (same := false) rfl hd rfl (by simp [q]) ho (pc' := pc') (by simp [acV, hp]) z) (hT q)
theorem W.acmpE (w : W κ l R Z EL own nm mx rt vm T h k n) {o : Int} {pc' : Nat} {a b : Addr} (hd : decode κ.c.code pc = .ok (.if_acmp .eq o, 3)) (ho : 0 ≤ (pc : Int) + o) (hp : ((pc : Int) + o).toNat = pc') (hT : a = b → Go κ G T pc' Ls st) (hF : ¬ a = b → Go κ G T (pc + 3) Ls st) : Go κ G T pc Ls (.ref b :: .ref a :: st) := by
  obtain ⟨q1, L, k0, X, e, hS, hk, hZ, ho', N, CC⟩ := w
  by_cases q : a = b
  · exact Fx.via (fun t z => RoadKit.acmp X q1.1 rfl (cd := .eq) (x := .ref a) (y := .ref b) rfl rfl (same := true) rfl hd rfl (by simp [q]) ho (pc' := pc') (by simp [acV, hp]) z) (hT q)
  · exact Fx.via (fun t z => RoadKit.acmp X q1.1 rfl (cd := .eq) (x := .ref a) (y := .ref b) rfl rfl (same := false) rfl hd rfl (by simp [q]) ho (pc' := pc + 3) (by simp [acV]) z) (hF q)
/-- invokevirtual of a private method -/
theorem W.callP (w : W κ l R Z EL own nm mx rt vm T h k n) {y : MethodName} {bytes : ByteArray} {maxL : Nat} {ret : Option FieldType} {index : Nat} (w1 : (Cond.methodLink own index y).before a0 Z = true) (w2 : (Cond.instanceMethod y).before a0 Z = true) (hnf : ∀ s : State, Z.Warmed39 s.vm → NotFace s y) (w5 : (Cond.privateMethod y).before a0 Z = true) (w4 : (Cond.code y bytes maxL ret).before a0 Z = true) (hy : y.cls ≠ "java/lang/invoke/MethodHandle" ∧ y.cls ≠ "java/lang/invoke/VarHandle")
    {a : Addr} {C : String} (E : Exa Z h a C) {argsL : List Value} {rc rs Wd : Nat} {Q : Option Value → Heap → (Addr → Prop) → Prop} (hK : BB κ l R Z EL vm h y 3 Wd (.ref a :: argsL).toArray rc rs Q) {ps : List FieldType} {r0 : Option FieldType} (hde : parseMethodDescriptor y.desc = some ⟨ps, r0⟩) (hlen : argsL.length = ps.length) {st0 : List Value} (hst : st0 = argsL.reverse ++ .ref a :: st) (hsz : Ls.size = mx) (hW : (st.map fun v => v.category).sum ≤ Wd) (hd : decode κ.c.code pc = .ok (.invokevirtual index, 3)) (hc : k + rc ≤ R.cells) (hl : n + rs ≤ R.slots)
    (g : ∀ (vm' : Vm) (T' : State) (h' : Heap) (v : Option Value), W κ l R Z EL own nm mx rt vm' T' h' (k + rc) (n + rs) → CRn Z EL vm h vm' h' → Q v h' (Safe Z EL vm' h') → Go κ G T' (pc + 3) Ls (v.toList ++ st)) : Go κ G T pc Ls st0 := by
  have w0 := w
  subst hst
  obtain ⟨q1, L, k0, X, e, hS, hk, hZ, ho, N, CC⟩ := w
  obtain ⟨cell, hcell, hob⟩ := E.cell
  have hinst : (Cond.instanceMethod y).before κ.a (κ.s.setVm vm) = true := mvT (s := κ.s.setVm vm) hZ w2
  have hcode : (Cond.code y bytes maxL ret).before κ.a (κ.s.setVm vm) = true := mvT (s := κ.s.setVm vm) hZ w4
  obtain ⟨mk, methM, hnamed, hmethM, hstM, habM⟩ := Cond.instanceMethod_spec hinst
  obtain ⟨methM', cM, hmethM', -, -, -, -, -, -, hsigM⟩ := Cond.code_spec hnamed hcode
  cases hmethM.symm.trans hmethM'
  obtain ⟨kP, hkP, hkPi⟩ := hnf (κ.s.setVm vm) hZ mk hnamed
  have hselP : selectMethod κ.e.platform (κ.s.setVm vm).vm cell.cls mk = .method mk := selectMethod_private hmethM (Cond.privateMethod_at (args := #[]) (mvP (s := κ.s.setVm vm) hZ w5) mk methM hnamed hmethM)
  obtain ⟨vm₁, X₁, hstep₁⟩ := X.invokevirtual q1.1 ho (mvT (s := κ.s.setVm vm) hZ w1) hnamed hmethM hstM hkP hkPi hy (a := a) (cell := cell) (by rw [e]; exact hcell) hob hselP hmethM habM hkP hkPi (g := mkF κ.m pc Ls (argsL.reverse ++ .ref a :: st)) rfl (argsL := argsL) (rest := st) (lenOf hde hlen _ hsigM) rfl hd
  obtain ⟨v, ⟨T', L', k', n'⟩, X', hS', hgr, ⟨L2, ⟨hQ, NL⟩, p1, p2, p3, p4⟩, hsteps⟩ := hK κ.m κ.M κ.c ⟨T.setVm vm₁, L, k, n⟩ (mkF κ.m pc Ls st) (.invokevirtual index) mk (.ref a :: argsL).toArray X₁ rfl (by show Ls.size = _; rw [q1.2.1]; exact hsz) hd (by show 2 * 0 + (st.map fun v => v.category).sum ≤ _; omega) (X₁.named hnamed) ⟨rfl, e, hc, hl⟩
  dsimp only [Pt.U, Pt.locs, Pt.cells, Pt.slots] at X' hS' hgr hQ p1 p2 p3 p4 hsteps
  subst p1 p2 p3
  have stp := (hstep₁ _ fun acts => by rw [doInvoke_state]; exact Steps.refl _).trans hsteps
  exact Fx.after stp (g T'.vm T' T'.heap v (w0.back ⟨k0, hS, hk⟩ N X' hS' (by rw [← e]; exact hgr) NL p4) p4 hQ)
theorem notFaceAs {y y' : MethodName} {C : String} (hc : y.cls = y'.cls) (w3 : (Cond.selects C y' y').before a0 Z = true) (w4 : (Cond.instanceMethod y').before a0 Z = true) : ∀ s : State, Z.Warmed39 s.vm → NotFace s y := fun s hZ r0 h0 => by
  have hi : (Cond.instanceMethod y').before #[] s = true := mvT hZ w4
  obtain ⟨mk, methM, hnamed, -⟩ := Cond.instanceMethod_spec hi
  obtain ⟨kr, h1, h2⟩ := notFace (a0 := a0) w3 s hZ mk hnamed
  have e1 := findClass_of_methodNamed h0
  have e2 := findClass_of_methodNamed hnamed
  rw [hc] at e1
  have e3 := Option.some.inj (e1.symm.trans e2)
  exact ⟨kr, by rw [e3]; exact h1, h2⟩
/-- invokevirtual of a method that a superclass declares -/
theorem W.callUp (w : W κ l R Z EL own nm mx rt vm T h k n) {y z : MethodName} {C owner : String} {index : Nat} (w1 : (Cond.methodLink own index y).before a0 Z = true) (w2 : (Cond.sameMethod y.cls owner y.name y.desc).before a0 Z = true) (w3 : (Cond.declares ⟨owner, y.name, y.desc⟩).before a0 Z = true) (hy : owner ≠ "java/lang/invoke/MethodHandle" ∧ owner ≠ "java/lang/invoke/VarHandle") (w4 : (Cond.selects C y z).before a0 Z = true) (w5 : (Cond.instanceMethod z).before a0 Z = true)
    {a : Addr} (E : Exa Z h a C) {argsL : List Value} {rc rs Wd : Nat} {Q : Option Value → Heap → (Addr → Prop) → Prop} (hK : BB κ l R Z EL vm h z 3 Wd (.ref a :: argsL).toArray rc rs Q) {ps : List FieldType} {r0 : Option FieldType} (hde : parseMethodDescriptor y.desc = some ⟨ps, r0⟩) (hlen : argsL.length = ps.length) {st0 : List Value} (hst : st0 = argsL.reverse ++ .ref a :: st) (hsz : Ls.size = mx) (hW : (st.map fun v => v.category).sum ≤ Wd) (hd : decode κ.c.code pc = .ok (.invokevirtual index, 3)) (hc : k + rc ≤ R.cells) (hl : n + rs ≤ R.slots)
    (g : ∀ (vm' : Vm) (T' : State) (h' : Heap) (v : Option Value), W κ l R Z EL own nm mx rt vm' T' h' (k + rc) (n + rs) → CRn Z EL vm h vm' h' → Q v h' (Safe Z EL vm' h') → Go κ G T' (pc + 3) Ls (v.toList ++ st)) : Go κ G T pc Ls st0 := by
  have w0 := w
  subst hst
  obtain ⟨q1, L, k0, X, e, hS, hk, hZ, ho, N, CC⟩ := w
  obtain ⟨cB, kB, i1, i2, i3⟩ := isOf (s := κ.s.setVm vm) hZ e E
  obtain ⟨v, vm₁, ⟨T', L', k', n'⟩, -, X', hS', hgr, ⟨L2, ⟨hQ, NL⟩, p1, p2, p3, p4⟩, stp⟩ := X.virtualBackUpS q1.1 ho (mvT (s := κ.s.setVm vm) hZ w1) (mvT (s := κ.s.setVm vm) hZ w2) (mvT (s := κ.s.setVm vm) hZ w3) hy (mvT (s := κ.s.setVm vm) hZ w4) (mvT (s := κ.s.setVm vm) hZ w5) hK i1 i3 (g := mkF κ.m pc Ls (argsL.reverse ++ .ref a :: st)) rfl (by rw [q1.2.1]; exact hsz) (Steps.refl _) (argsL := argsL) (rest := st) (lenOf hde hlen) rfl (by show 2 * 0 + _ ≤ _; omega) hd (fun _ _ => ⟨rfl, e, hc, hl⟩)
  dsimp only [Pt.U, Pt.locs, Pt.cells, Pt.slots] at X' hS' hgr hQ p1 p2 p3 p4 stp
  subst p1 p2 p3
  exact Fx.after stp (g T'.vm T' T'.heap v (w0.back ⟨k0, hS, hk⟩ N X' hS' (by rw [← e]; exact hgr) NL p4) p4 hQ)
theorem W.instNo (w : W κ l R Z EL own nm mx rt vm T h k n) {K C : String} {index : Nat} (w1 : (Cond.classLink own index K).before a0 Z = true) {a : Addr} (E : Exa Z h a C) (F : ∃ c t, Z.vm.findClass C = some c ∧ Z.vm.findClass K = some t ∧ Z.vm.assignable c t = false) (hd : decode κ.c.code pc = .ok (.instanceof index, 3))
    (g : ∀ T' : State, W κ l R Z EL own nm mx rt vm T' h k n → Go κ G T' (pc + 3) Ls (.int 0 :: st)) : Go κ G T pc Ls (.ref a :: st) := by
  obtain ⟨q1, L, k0, X, e, hS, hk, hZ, ho, N, CC⟩ := w
  obtain ⟨T', X', e', stp⟩ := RoadKit.instNo X q1.1 hZ ho w1 e E F (g := mkF κ.m pc Ls (.ref a :: st)) rfl rfl hd
  exact Fx.via stp (g T' ⟨q1, L, k0, X', e', hS, hk, hZ, ho, N, CC⟩)
theorem W.instNull (w : W κ l R Z EL own nm mx rt vm T h k n) {index : Nat} (hd : decode κ.c.code pc = .ok (.instanceof index, 3)) (g : Go κ G T (pc + 3) Ls (.int 0 :: st)) : Go κ G T pc Ls (.null :: st) := by
  obtain ⟨q1, L, k0, X, -⟩ := w
  exact Fx.via (Stand.instanceofNull X q1.1 (g := mkF κ.m pc Ls (.null :: st)) rfl rfl hd) g
theorem W.lsw (w : W κ l R Z EL own nm mx rt vm T h k n) {x : Int32} {dflt : Int} {pairs : Array (Int × Int)} {len : Nat} {pc' : Nat} (hd : decode κ.c.code pc = .ok (.lookupswitch dflt pairs, len)) (hso : (pairs.toList.zip (pairs.toList.drop 1)).all (fun (a, next) => a.1 < next.1) = true) {p : Int × Int} (hf : pairs.find? (·.1 == x.toInt) = some p) (ho : 0 ≤ (pc : Int) + p.2) (hp : ((pc : Int) + p.2).toNat = pc') (g : Go κ G T pc' Ls st) : Go κ G T pc Ls (.int x :: st) := by
  obtain ⟨q1, L, k0, X, -⟩ := w
  subst hp
  obtain ⟨p1, p2⟩ := p
  exact Fx.via (fun t z => Stand.lookupswitchHit X q1.1 (g := mkF κ.m pc Ls (.int x :: st)) rfl rfl hd hso hf ho t z) g
/-- the end -/
theorem W.ends (w : W κ l R Z EL own nm mx rt vm T h k n) {Q : Option Value → Heap → (Addr → Prop) → Prop} {v : Option Value} (hv : κ.M.sig.returnType = none → v = none) (hc : k ≤ R.cells) (hl : n ≤ R.slots) (hQ : ∀ S : Addr → Prop, (∀ x, x < h.size → Safe Z EL vm h x → S x) → Q v h S) {A : State}
    (hs : ∀ fs, (∀ (f : JFrame) (acts : List Action), f.method = κ.m → f.locked = none → f.entered = [] → (doReturn κ.e (T.setTop f) acts v).1 = T.setFrames fs) → Steps κ.p.tables κ.e κ.b A (T.setFrames fs)) : Fx κ (GQ κ Z EL R Q) A := by
  have w0 := w
  obtain ⟨q1, L, k0, X, e, hS, hk, hZ, ho, N, CC⟩ := w
  obtain ⟨a0, hEL⟩ := q1.2.2.2.2.2
  obtain ⟨fs, h1, h2, h3, h4⟩ := Stand.leaveW (s := κ.s) X hS (by rw [e]; exact hk) hv q1.2.2.2.1
  refine ⟨v, T.setFrames fs, hs fs h1, h2, h3, L, ⟨?_, N⟩, ?_, h4.1, h4.2.1, h4.2.2.1, h4.2.2.2.mono hc hl⟩
  · show Q v T.heap (Safe Z EL T.vm T.heap)
    rw [e]; exact hQ _ fun x hx S => (CRn.at X hZ hEL CC.1).safe hx S
  · have := CC.trans (CRn.at X hZ hEL CC.1)
    show CRn Z EL κ.s.vm κ.s.heap T.vm T.heap
    rw [e]; exact this
theorem W.retV (w : W κ l R Z EL own nm mx none vm T h k n) {Q : Option Value → Heap → (Addr → Prop) → Prop} (hd : decode κ.c.code pc = .ok (.return_, 1)) (hc : k ≤ R.cells) (hl : n ≤ R.slots) (hQ : ∀ S : Addr → Prop, (∀ x, x < h.size → Safe Z EL vm h x → S x) → Q none h S) : Go κ (GQ κ Z EL R Q) T pc Ls [] := by
  have w0 := w
  obtain ⟨q1, L, k0, X, -⟩ := w
  exact w0.ends (fun _ => rfl) hc hl hQ fun fs hr => X.returnOut q1.1 q1.2.2.1 hd hr
theorem W.retI (w : W κ l R Z EL own nm mx rt vm T h k n) {t : FieldType} (ht : rt = some t) (htk : t = .int ∨ t = .boolean ∨ t = .byte ∨ t = .char ∨ t = .short) {Q : Option Value → Heap → (Addr → Prop) → Prop} {z : Int32} (hn : narrow t (.int z) = .int z) (hd : decode κ.c.code pc = .ok (.ireturn, 1)) (hc : k ≤ R.cells) (hl : n ≤ R.slots) (hQ : ∀ S : Addr → Prop, (∀ x, x < h.size → Safe Z EL vm h x → S x) → Q (some (.int z)) h S) : Go κ (GQ κ Z EL R Q) T pc Ls (.int z :: st) := by
  have w0 := w
  obtain ⟨q1, L, k0, X, -⟩ := w
  subst ht
  exact w0.ends (fun q => by rw [q1.2.2.1] at q; cases q) hc hl hQ fun fs hr => retOut X q1.1 q1.2.2.1 hn (Or.inl ⟨rfl, htk, z, rfl⟩) hd hr
theorem W.retA (w : W κ l R Z EL own nm mx rt vm T h k n) {t : FieldType} (ht : rt = some t) (htk : t.isReference = true) {Q : Option Value → Heap → (Addr → Prop) → Prop} {v : Value} (hvr : v.isRef = true) (hn : narrow t v = v) (hd : decode κ.c.code pc = .ok (.areturn, 1)) (hc : k ≤ R.cells) (hl : n ≤ R.slots) (hQ : ∀ S : Addr → Prop, (∀ x, x < h.size → Safe Z EL vm h x → S x) → Q (some v) h S) : Go κ (GQ κ Z EL R Q) T pc Ls (v :: st) := by
  have w0 := w
  obtain ⟨q1, L, k0, X, -⟩ := w
  subst ht
  exact w0.ends (fun q => by rw [q1.2.2.1] at q; cases q) hc hl hQ fun fs hr => retOut X q1.1 q1.2.2.1 hn (Or.inr (Or.inr (Or.inr (Or.inr ⟨rfl, htk, hvr⟩)))) hd hr
end Laws
end Jvm.WK
namespace Jvm.WK
open Sem ClassFile Op Lib Jvm.Stand Jvm.Free Jvm.LawKit Jvm.RoadKit Bundle
/-! WK3: Strings, plainly -/
abbrev ST : String := "java/lang/String"
def lo8 (x : Int32) : Int32 := x.toInt8.toInt32
def hi8 (x : Int32) : Int32 := (x >>> ((8 : Int32) &&& 31)).toInt8.toInt32
def lo0 (x : Int32) : Int32 := (x >>> ((0 : Int32) &&& 31)).toInt8.toInt32
def IsC (cs : List Int32) : Prop := ∀ c ∈ cs, ¬ c < 0 ∧ ¬ 65535 < c
def IsL (cs : List Int32) : Prop := ∀ c ∈ cs, ¬ c < 0 ∧ ¬ 255 < c
theorem IsL.isC {cs : List Int32} (h : IsL cs) : IsC cs := fun c hc => ⟨(h c hc).1, fun q => (h c hc).2 (by
  rw [Int32.lt_iff_toInt_lt] at q ⊢
  have e1 : (65535 : Int32).toInt = 65535 := by decide
  have e2 : (255 : Int32).toInt = 255 := by decide
  omega)⟩
def u16 : List Int32 → List Int32
  | [] => []
  | c :: cs => lo0 c :: hi8 c :: u16 cs
theorem u16_len : ∀ cs : List Int32, (u16 cs).length = 2 * cs.length
  | [] => rfl
  | c :: cs => by simp only [u16, List.length_cons, u16_len cs]; omega
theorem u16_app : ∀ a b : List Int32, u16 (a ++ b) = u16 a ++ u16 b
  | [], b => rfl
  | c :: cs, b => by simp only [List.cons_append, u16, u16_app cs b]
theorem u16_at : ∀ (cs : List Int32) (i : Nat) (c : Int32), cs[i]? = some c → (u16 cs)[2 * i]? = some (lo0 c) ∧ (u16 cs)[2 * i + 1]? = some (hi8 c)
  | [], i, c, h => by simp at h
  | d :: cs, 0, c, h => by
    have e : d = c := by simpa using h
    subst e
    exact ⟨rfl, rfl⟩
  | d :: cs, i + 1, c, h => by
    have h' : cs[i]? = some c := by simpa using h
    obtain ⟨h1, h2⟩ := u16_at cs i c h'
    have e1 : 2 * (i + 1) = 2 * i + 1 + 1 := by omega
    have e2 : 2 * (i + 1) + 1 = 2 * i + 1 + 1 + 1 := by omega
    rw [e1]
    exact ⟨by simpa [u16] using h1, by simpa [u16] using h2⟩
theorem ofNat_toInt {i : Nat} (h : i < 2147483648) : (Int32.ofNat i).toInt = (i : Int) := Int32.toInt_ofNat_small (by omega)
theorem ofNat_add {i j : Nat} : Int32.ofNat i + Int32.ofNat j = Int32.ofNat (i + j) := (Int32.ofNat_add i j).symm
theorem ofNat_succ {i : Nat} : Int32.ofNat i + (1 : Int32) = Int32.ofNat (i + 1) := (Int32.ofNat_add i 1).symm
theorem ofNat_lt {i j : Nat} (hi : i < 2147483648) (hj : j < 2147483648) : Int32.ofNat i < Int32.ofNat j ↔ i < j := by
  rw [Int32.lt_iff_toInt_lt, ofNat_toInt hi, ofNat_toInt hj]; omega
theorem ofNat_inj {i j : Nat} (hi : i < 2147483648) (hj : j < 2147483648) : Int32.ofNat i = Int32.ofNat j ↔ i = j := by
  rw [← Int32.toInt_inj, ofNat_toInt hi, ofNat_toInt hj]; omega
theorem ofNat_dbl {i : Nat} (h : i < 1073741824) : Int32.ofNat i <<< ((1 : Int32) &&& 31) = Int32.ofNat (2 * i) := by
  rw [← Int32.toInt_inj, ofNat_toInt (by omega)]
  have h1 := c_ishl (Int32.ofNat i) 1 1 (by decide)
  rw [ofNat_toInt (by omega)] at h1
  have h2 := rng32 (Int32.ofNat i <<< ((1 : Int32) &&& 31))
  push_cast at h1 ⊢
  omega
theorem ofNat_half {i : Nat} (h : 2 * i < 2147483648) : Int32.ofNat (2 * i) >>> ((1 : Int32) &&& 31) = Int32.ofNat i := by
  rw [← Int32.toInt_inj, ofNat_toInt (by omega), c_ishr _ 1 1 (by decide), ofNat_toInt (by omega)]
  push_cast
  omega
theorem shr0 (x : Int32) : x >>> ((0 : Int32) &&& 31) = x := by
  rw [← Int32.toInt_inj, c_ishr _ 0 0 (by decide)]
  simp
theorem fits_lo8 (x : Int32) : fits .byte (.int (lo8 x)) = true := Jvm.Free.SBG.fits_of_int8 _
theorem fits_i2b (x : Int32) : fits .byte (.int x.toInt8.toInt32) = true := Jvm.Free.SBG.fits_of_int8 _
theorem nar_i2b (x : Int32) : nar .byte x.toInt8.toInt32 = x.toInt8.toInt32 := by simp [nar]
theorem fits_i2c (x : Int32) : fits .char (.int x.toUInt32.toUInt16.toUInt32.toInt32) = true := by
  have h := c_i2c x
  have e1 : (0 : Int32).toInt = 0 := by decide
  have e2 : (65535 : Int32).toInt = 65535 := by decide
  simp only [fits, Bool.and_eq_true, decide_eq_true_eq, Int32.le_iff_toInt_le, e1, e2]
  omega
theorem nar_i2c (x : Int32) : nar .char x.toUInt32.toUInt16.toUInt32.toInt32 = x.toUInt32.toUInt16.toUInt32.toInt32 := by
  simp only [nar, UInt32.toUInt32_toInt32, UInt16.toUInt16_toUInt32]
theorem char_of {x : Int32} (h0 : ¬ x < 0) (h1 : ¬ 65535 < x) : x.toUInt32.toUInt16.toUInt32.toInt32 = x := by
  rw [← Int32.toInt_inj]
  have h := c_i2c x
  rw [Int32.lt_iff_toInt_lt] at h0 h1
  have e1 : (0 : Int32).toInt = 0 := by decide
  have e2 : (65535 : Int32).toInt = 65535 := by decide
  omega
theorem narrow_char {x : Int32} (h0 : ¬ x < 0) (h1 : ¬ 65535 < x) : narrow .char (.int x) = .int x := by
  have := char_of h0 h1
  show Value.int x.toUInt32.toUInt16.toUInt32.toInt32 = _
  rw [this]
theorem lo8_and {x : Int32} (h0 : ¬ x < 0) (h1 : ¬ 255 < x) : lo8 x &&& (255 : Int32) = x := by
  rw [← Int32.toInt_inj, c_mask _ 255 8 (by decide) (by decide)]
  have h := c_i2b x
  rw [Int32.lt_iff_toInt_lt] at h0 h1
  have e1 : (0 : Int32).toInt = 0 := by decide
  have e2 : (255 : Int32).toInt = 255 := by decide
  unfold lo8
  omega
theorem lo8_inj {x y : Int32} (h0 : ¬ x < 0) (h1 : ¬ 255 < x) (g0 : ¬ y < 0) (g1 : ¬ 255 < y) (e : lo8 x = lo8 y) : x = y := by
  rw [← lo8_and h0 h1, ← lo8_and g0 g1, e]
theorem getc {c : Int32} (h0 : ¬ c < 0) (h1 : ¬ 65535 < c) : (((lo0 c &&& (255 : Int32)) <<< ((0 : Int32) &&& 31)) ||| ((hi8 c &&& (255 : Int32)) <<< ((8 : Int32) &&& 31))).toUInt32.toUInt16.toUInt32.toInt32 = c := by
  rw [← Int32.toInt_inj]
  rw [Int32.lt_iff_toInt_lt] at h0 h1
  have e1 : (0 : Int32).toInt = 0 := by decide
  have e2 : (65535 : Int32).toInt = 65535 := by decide
  have a0 := c_ishr c 0 0 (by decide)
  have a1 := c_i2b (c >>> ((0 : Int32) &&& 31))
  have a2 := c_mask (lo0 c) 255 8 (by decide) (by decide)
  have a3 := c_ishl (lo0 c &&& 255) 0 0 (by decide)
  have a4 := rng32 ((lo0 c &&& (255 : Int32)) <<< ((0 : Int32) &&& 31))
  have b0 := c_ishr c 8 8 (by decide)
  have b1 := c_i2b (c >>> ((8 : Int32) &&& 31))
  have b2 := c_mask (hi8 c) 255 8 (by decide) (by decide)
  have b3 := c_ishl (hi8 c &&& 255) 8 8 (by decide)
  have b4 := rng32 ((hi8 c &&& (255 : Int32)) <<< ((8 : Int32) &&& 31))
  have cc := c_or' ((lo0 c &&& (255 : Int32)) <<< ((0 : Int32) &&& 31)) ((hi8 c &&& (255 : Int32)) <<< ((8 : Int32) &&& 31)) 8 (by decide) 256 (by decide)
  have dd := c_i2c (((lo0 c &&& (255 : Int32)) <<< ((0 : Int32) &&& 31)) ||| ((hi8 c &&& (255 : Int32)) <<< ((8 : Int32) &&& 31)))
  have ee := rng32 (((lo0 c &&& (255 : Int32)) <<< ((0 : Int32) &&& 31)) ||| ((hi8 c &&& (255 : Int32)) <<< ((8 : Int32) &&& 31)))
  unfold lo0 hi8 at *
  generalize (c >>> ((0 : Int32) &&& 31)).toInt8.toInt32 = x0 at *
  generalize (c >>> ((8 : Int32) &&& 31)).toInt8.toInt32 = x1 at *
  generalize (x0 &&& (255 : Int32)) <<< ((0 : Int32) &&& 31) = y0 at *
  generalize (x1 &&& (255 : Int32)) <<< ((8 : Int32) &&& 31) = y1 at *
  generalize (y0 ||| y1).toUInt32.toUInt16.toUInt32.toInt32 = z at *
  have c2 : y1.toInt % 256 = 0 := by omega
  have c3 : 0 ≤ y0.toInt := by omega
  have c4 : y0.toInt < 256 := by omega
  have cc := cc c2 c3 c4
  omega
theorem set_map {pre : List Int32} {k : Nat} {a : Int32} (f : Int32 → Int32) : (pre.map f ++ List.replicate (k + 1) (0 : Int32)).set pre.length a = pre.map f ++ a :: List.replicate k 0 := by
  rw [List.set_append_right _ _ (by simp)]
  simp [List.replicate_succ]
theorem set_u16 {pre : List Int32} {k : Nat} {a b : Int32} : ((u16 pre ++ List.replicate (2 * (k + 1)) (0 : Int32)).set (2 * pre.length) a).set (2 * pre.length + 1) b = u16 pre ++ a :: b :: List.replicate (2 * k) 0 := by
  have e : 2 * (k + 1) = 2 * k + 1 + 1 := by omega
  rw [e, List.replicate_succ, List.replicate_succ, List.set_append_right _ _ (by rw [u16_len]; omega)]
  rw [u16_len, Nat.sub_self, List.set_cons_zero, List.set_append_right _ _ (by rw [u16_len]; omega), u16_len]
  have e2 : 2 * pre.length + 1 - 2 * pre.length = 0 + 1 := by omega
  rw [e2, List.set_cons_succ, List.set_cons_zero]
theorem take_succ {cs : List Int32} {i : Nat} {c : Int32} (h : cs[i]? = some c) : cs.take (i + 1) = cs.take i ++ [c] := by
  rw [List.take_add_one, h]; rfl
/-- a String that spells cs -/
def Str (Z : State) (h : Heap) (a : Addr) (cs : List Int32) : Prop :=
  ∃ b, Exa Z h a ST ∧ Fld Z h a ST "value" "[B" (.ref b) ∧ IsC cs ∧ cs.length < 1073741824 ∧
    ((IsL cs ∧ Fld Z h a ST "coder" "B" (.int 0) ∧ Ary Z h b .byte (cs.map lo8)) ∨ (¬ IsL cs ∧ Fld Z h a ST "coder" "B" (.int 1) ∧ Ary Z h b .byte (u16 cs)))
section StrFacts
variable {Z : State} {h h' : Heap} {a : Addr} {cs : List Int32} {ws : List Addr}
theorem Str.ext (E : Ext h h') (F : Str Z h a cs) : Str Z h' a cs := by
  obtain ⟨b, f1, f2, f3, f4, f5⟩ := F
  exact ⟨b, f1.ext E, f2.ext E, f3, f4, f5.imp (fun q => ⟨q.1, q.2.1.ext E, q.2.2.ext E⟩) (fun q => ⟨q.1, q.2.1.ext E, q.2.2.ext E⟩)⟩
theorem Str.exa (F : Str Z h a cs) : Exa Z h a ST := by obtain ⟨b, f1, -⟩ := F; exact f1
theorem Str.lt (F : Str Z h a cs) : a < h.size := F.exa.lt
theorem Str.isC (F : Str Z h a cs) : IsC cs := by obtain ⟨b, f1, f2, f3, -⟩ := F; exact f3
theorem Keep.toExt (K : Keep h h' []) : Ext h h' := ⟨K.1, fun x c q => K.2.1 x c q nin0⟩
/-- kept where all that was written is new (at or above h.size) -/
theorem Str.keepNew {h0 : Heap} (K : Keep h0 h' ws) (F : Str Z h0 a cs) (hw : ∀ x ∈ ws, h0.size ≤ x) : Str Z h' a cs :=
  F.ext ⟨K.1, fun x c q => K.2.1 x c q fun hm => absurd (Array.getElem?_eq_some_iff.mp q).1 (Nat.not_lt.mpr (hw x hm))⟩
end StrFacts
end Jvm.WK
namespace Jvm.WK
open Sem ClassFile Op Lib Jvm.Stand Jvm.Free Jvm.LawKit Jvm.RoadKit Bundle
section StrMore
variable {Z : State} {h h' : Heap} {a b x y : Addr} {cs ds : List Int32} {ws : List Addr} {a0 : Array Value}
theorem Ary.ne_exa {C : String} {kk : Nat} {ty : FieldType} {vs : List Int32} (F : Ary Z h y ty vs) (E : Exa Z h x C) (wi : (Cond.instantiable C kk).before a0 Z = true) : y ≠ x := by
  obtain ⟨c, A, -⟩ := F; exact fun e => ne_arr E wi A e.symm
theorem Ary.inj {ty : FieldType} {us vs : List Int32} (F : Ary Z h a ty us) (G : Ary Z h a ty vs) : us = vs := by
  obtain ⟨c, A, r1, -⟩ := F
  obtain ⟨c', A', r1', -⟩ := G
  cases A.1.symm.trans A'.1
  have := r1.symm.trans r1'
  exact (List.map_inj_right (fun x y q => by cases q; rfl)).mp this
theorem Ary.isC (F : Ary Z h a .char cs) : IsC cs := fun c hc => by
  have := F.fit c hc
  exact rng_char this
theorem Fld.inj {C n d : String} {v w : Value} (F : Fld Z h a C n d v) (G : Fld Z h a C n d w) : v = w := Classical.byContradiction fun q => F.ne G q rfl
theorem lo8_list : ∀ {cs ds : List Int32}, IsL cs → IsL ds → cs.map lo8 = ds.map lo8 → cs = ds
  | [], [], _, _, _ => rfl
  | [], d :: ds, _, _, h => by simp at h
  | c :: cs, [], _, _, h => by simp at h
  | c :: cs, d :: ds, h1, h2, h => by
    simp only [List.map_cons, List.cons.injEq] at h
    have e1 := lo8_inj (h1 c (List.mem_cons_self ..)).1 (h1 c (List.mem_cons_self ..)).2 (h2 d (List.mem_cons_self ..)).1 (h2 d (List.mem_cons_self ..)).2 h.1
    have e2 := lo8_list (fun x hx => h1 x (List.mem_cons_of_mem _ hx)) (fun x hx => h2 x (List.mem_cons_of_mem _ hx)) h.2
    rw [e1, e2]
theorem Str.lat (F : Str Z h a cs) (hL : IsL cs) : ∃ b, Fld Z h a ST "value" "[B" (.ref b) ∧ Fld Z h a ST "coder" "B" (.int 0) ∧ Ary Z h b .byte (cs.map lo8) := by
  obtain ⟨b, f1, f2, f3, f4, f5 | f5⟩ := F
  · exact ⟨b, f2, f5.2⟩
  · exact absurd hL f5.1
theorem Str.inj (F : Str Z h a cs) (G : Str Z h a ds) (hc : IsL cs) (hd : IsL ds) : cs = ds := by
  obtain ⟨b, f1, f2, f3⟩ := F.lat hc
  obtain ⟨b', g1, g2, g3⟩ := G.lat hd
  have := Fld.inj f1 g1
  cases this
  exact lo8_list hc hd (f3.inj g3)
theorem Str.len_lt (F : Str Z h a cs) : cs.length < 1073741824 := by obtain ⟨b, f1, f2, f3, f4, -⟩ := F; exact f4
theorem cod0 {n : Nat} : (((Int32.ofNat n - Int32.ofNat n).toUInt32 >>> ((31 : Int32) &&& 31).toUInt32).toInt32).toInt8.toInt32 = 0 := by
  rw [Int32.sub_self]; decide
theorem cod1 {n : Nat} (h0 : 0 < n) (h : 2 * n < 2147483648) : (((Int32.ofNat n - Int32.ofNat (2 * n)).toUInt32 >>> ((31 : Int32) &&& 31).toUInt32).toInt32).toInt8.toInt32 = 1 := by
  have e : ((Int32.ofNat n - Int32.ofNat (2 * n)).toUInt32 >>> ((31 : Int32) &&& 31).toUInt32).toInt32 = 1 := by
    rw [← Int32.toInt_inj, c_iushr _ 31 31 (by decide) (by decide)]
    have h1 := c_isub (Int32.ofNat n) (Int32.ofNat (2 * n))
    rw [ofNat_toInt (by omega), ofNat_toInt (by omega)] at h1
    have h2 := rng32 (Int32.ofNat n - Int32.ofNat (2 * n))
    have h3 : (1 : Int32).toInt = 1 := by decide
    rw [h3]
    omega
  rw [e]; decide
theorem isL_of {cs : List Int32} (hc : IsC cs) (h : ∀ i c, i < cs.length → cs[i]? = some c → ¬ 255 < c) : IsL cs := fun c hm => by
  obtain ⟨i, hi, rfl⟩ := List.getElem_of_mem hm
  exact ⟨(hc _ hm).1, h i _ hi (List.getElem?_eq_getElem hi)⟩
theorem not_isL {cs : List Int32} {i : Nat} {c : Int32} (h : cs[i]? = some c) (q : 255 < c) : ¬ IsL cs := fun hl => (hl c (List.mem_of_getElem? h)).2 q
end StrMore
end Jvm.WK
namespace Jvm.WK
open Sem ClassFile Op Lib Jvm.Stand Jvm.Free Jvm.LawKit Jvm.RoadKit Bundle
theorem fitsCh {x : Int32} (h0 : ¬ x < 0) (h1 : ¬ 65535 < x) : fits .char (.int x) = true := by
  have := fits_i2c x
  rw [char_of h0 h1] at this; exact this
theorem narCh {x : Int32} (h0 : ¬ x < 0) (h1 : ¬ 65535 < x) : nar .char x = x := char_of h0 h1
theorem and255 (x : Int32) : ¬ (x &&& (255 : Int32)).toUInt32.toUInt16.toUInt32.toInt32 < 0 ∧ ¬ 255 < (x &&& (255 : Int32)).toUInt32.toUInt16.toUInt32.toInt32 := by
  have h1 := c_and x 255 (by decide)
  have h2 := c_i2c (x &&& 255)
  have h3 : (255 : Int32).toInt = 255 := by decide
  have h4 : (0 : Int32).toInt = 0 := by decide
  rw [Int32.lt_iff_toInt_lt, Int32.lt_iff_toInt_lt]
  omega
theorem and255' (x : Int32) : ¬ (x &&& (255 : Int32)) < 0 ∧ ¬ 255 < (x &&& (255 : Int32)) := by
  have h1 := c_and x 255 (by decide)
  have h3 : (255 : Int32).toInt = 255 := by decide
  have h4 : (0 : Int32).toInt = 0 := by decide
  rw [Int32.lt_iff_toInt_lt, Int32.lt_iff_toInt_lt]
  omega
theorem i2c_bounds (x : Int32) : ¬ x.toUInt32.toUInt16.toUInt32.toInt32 < 0 ∧ ¬ 65535 < x.toUInt32.toUInt16.toUInt32.toInt32 := by
  have h2 := c_i2c x
  have h3 : (65535 : Int32).toInt = 65535 := by decide
  have h4 : (0 : Int32).toInt = 0 := by decide
  rw [Int32.lt_iff_toInt_lt, Int32.lt_iff_toInt_lt]
  omega
theorem le255 {x : Int32} (h : ¬ 255 < x) : ¬ 65535 < x := by
  have h3 : (65535 : Int32).toInt = 65535 := by decide
  have h4 : (255 : Int32).toInt = 255 := by decide
  rw [Int32.lt_iff_toInt_lt] at h ⊢
  omega
/-- a remainder of a masked int is a small number -/
theorem remNat (x q m : Int32) (n : Nat) (hq : 0 ≤ q.toInt) (hm : m.toInt = n) (h0 : 0 < n) : ∃ k, k < n ∧ (x &&& q) % m = Int32.ofNat k := by
  have h1 := c_and x q hq
  have h2 := (c_irem (x &&& q) m n hm).1 h1.1
  have h3 := Int.emod_nonneg (x &&& q).toInt (show (n : Int) ≠ 0 by omega)
  have h4 := Int.emod_lt_of_pos (x &&& q).toInt (show (0 : Int) < n by omega)
  have h5 := rng32 m
  refine ⟨((x &&& q).toInt % n).toNat, by omega, ?_⟩
  rw [← Int32.toInt_inj, h2, ofNat_toInt (by omega)]
  omega
/-- an int masked by a small constant is a small number -/
theorem andNat (x m : Int32) (n : Nat) (hm : m.toInt = n) : ∃ k, k ≤ n ∧ (x &&& m) = Int32.ofNat k := by
  have h1 := c_and x m (by omega)
  have h5 := rng32 m
  refine ⟨(x &&& m).toInt.toNat, by omega, ?_⟩
  rw [← Int32.toInt_inj, ofNat_toInt (by omega)]
  omega
end Jvm.WK
namespace Jvm.WK
open Sem ClassFile Op Lib Jvm.Stand Jvm.Free Jvm.LawKit Jvm.RoadKit Bundle
/-- a String is kept where just an object of another class was written -/
theorem Str.keepObj {Z : State} {h h' : Heap} {a x : Addr} {cs : List Int32} {C : String} {kk : Nat} {a0 : Array Value} (F : Str Z h a cs) (K : Keep h h' [x]) (E : Exa Z h x C) (hC : C ≠ ST) (wi : (Cond.instantiable C kk).before a0 Z = true) : Str Z h' a cs := by
  obtain ⟨b, f1, f2, f3, f4, f5⟩ := F
  have n1 : a ∉ [x] := ninS (Exa.ne f1 E (Ne.symm hC)) nin0
  have n2 : ∀ {vs : List Int32}, Ary Z h b .byte vs → b ∉ [x] := fun A => ninS (A.ne_exa E wi) nin0
  exact ⟨b, f1.keep K, f2.keep K n1, f3, f4, f5.imp (fun q => ⟨q.1, q.2.1.keep K n1, q.2.2.keep K (n2 q.2.2)⟩) (fun q => ⟨q.1, q.2.1.keep K n1, q.2.2.keep K (n2 q.2.2)⟩)⟩
theorem Ary.ofStatic {Z : State} {a : Addr} {args : Array Value} {t : Term} {AL : List Int32} (ev : t.eval args Z none [] Z = some (.ref a)) (hx : (Cond.arrayOf t .int).value args Z none Z [] = some true) (n : Nat) (hn : AL.length = n) (hlen : (Term.length t).eval args Z none [] Z = some (.int (Int32.ofNat n))) (hl : n < 2147483648) (hr : ∀ (i : Nat) (v : Int32), AL[i]? = some v → (Term.elem t (.int (Int32.ofNat i))).eval args Z none [] Z = some (.int v)) : Ary Z Z.heap a .int AL := by
  obtain ⟨c, A⟩ := Arr.start ev hx
  have hz : c.slots.size = n := by
    simp only [Term.eval, ev, Option.bind_eq_bind, Option.bind_some, A.fin (Vm.Alike.refl _)] at hlen
    split at hlen
    · rename_i hq
      have := Value.int.inj (Option.some.inj hlen)
      exact (ofNat_inj (by omega) hl).mp this
    · simp at hlen
  refine ⟨c, A, List.ext_getElem? fun i => ?_, by omega, fun v hv => rfl⟩
  by_cases hi : i < n
  · have hv := List.getElem?_eq_getElem (l := AL) (i := i) (by omega)
    have q := elem_in (hr i _ hv) ev (Term.int_eval _) A.1
    rw [clamp_ofNat (by omega)] at q
    rw [List.getElem?_map, hv, Array.getElem?_toList]; exact q.2
  · rw [List.getElem?_eq_none (by simp; omega), List.getElem?_eq_none (by simp; omega)]
theorem noIns {Z : State} {a0 : Array Value} {C O K : String} {nn : Nat} (w : (Cond.superclass C O).before a0 Z = true) (wo : (Cond.noSuperclass O).before a0 Z = true) (wi : (Cond.instantiable K nn).before a0 Z = true) (h1 : C ≠ K) (h2 : O ≠ K) : ∃ c t, Z.vm.findClass C = some c ∧ Z.vm.findClass K = some t ∧ Z.vm.assignable c t = false := by
  obtain ⟨t, kt, g1, g2, g3, g4, -⟩ := Cond.instantiable_spec wi
  have n0 : NS Z O K := by
    obtain ⟨c, k, a1, a2, a3, -, -⟩ := Cond.noSuperclass_spec wo
    have ne := ids_ne a1 g1 h2
    refine ⟨c, t, a1, g1, fun fuel => ?_⟩
    cases fuel with
    | zero => rfl
    | succ f => simp [Vm.isSubclassAux, ne, a2, a3]
  obtain ⟨c, t', h0, g0, n3⟩ := NS.step w n0 h1
  cases g1.symm.trans g0
  obtain ⟨p, k, kp, q1, q2, q3, q4, q5, -, q7⟩ := Cond.superclass_spec h0 w
  have ne := ids_ne h0 g0 h1
  have hi : kt.isInterface = false := by
    rw [Bool.or_eq_false_iff] at g4; exact g4.1
  refine ⟨c, _, h0, g0, ?_⟩
  show Z.vm.assignableAux (255 + 1) c _ = false
  simp [Vm.assignableAux, ne, q2, g2, q5, g3, hi, Vm.isSubclass, n3]
end Jvm.WK
@@BLOCK:LamKit.lean.txt@@
namespace Jvm.WK
open Sem ClassFile Op Lib Jvm.Stand Jvm.Free Jvm.LawKit Jvm.RoadKit Jvm.LamKit Bundle
/-! WKL: a lambda that captures nothing, and the call of its object, in the narrow kit's form -/
section Lam
variable {κ : Cx} {l : Launch} {R : Room} {Z : State} {EL : List (String × Nat)} {own nm : String} {mx : Nat} {rt : Option FieldType} {vm : Vm} {T : State} {h : Heap} {k n pc : Nat} {Ls : Array Slot} {st : List Value} {G : Option Value → State → Prop} {a0 : Array Value}
theorem W.nwz (w : W κ l R Z EL own nm mx rt vm T h k n) : Nw Z.vm vm := w.cvn.2
theorem madeWarm {s t : State} {host : String} {σ : Lambda.Shape} {cK : ClassId} (hW : s.WarmedH t.vm) (h : LamKit.Made s host σ cK) : LamKit.Made t host σ cK := by
  obtain ⟨d, dk, h1, h2, h3, h4⟩ := h
  obtain ⟨dk', h1', he⟩ := hW.alike.2.2 _ _ h1
  refine ⟨d, dk', h1', by rw [he]; exact h2, Lambda.isMade_warmer hW h3, ?_⟩
  have hA := hW.alike
  simp only [State.lambdaCallable, hA.findClass, hA.assignable, hA.superclasses, hA.declaredIn] at h4 ⊢
  exact h4
theorem W.lamC (w : W κ l R Z EL own nm mx rt vm T h k n) {x : MethodName} (hnm : κ.s.methodNamed? x = some κ.m) {index : Nat} {σ : Lambda.Shape} (hsite : (Cond.lambdaSite x pc index σ).before a0 Z = true) (hcap : σ.captured = []) (hsz : Ls.size = mx) (hd : decode κ.c.code pc = .ok (.invokedynamic index, 5)) {Wd : Nat} (hWd : (st.map fun v => v.category).sum ≤ Wd) (hl : Wd + 3072 ≤ R.locals)
    (g : ∀ (a : Addr) (cK : ClassId), LamKit.Made Z x.cls σ cK → FnAt Z.heap a cK → Go κ G T (pc + 5) Ls (.ref a :: st)) : Go κ G T pc Ls st := by
  have hz := w.nwz
  obtain ⟨q1, L, k0, X, e, hS, hk, hZ, ho, N, CC⟩ := w
  obtain ⟨cK, one, hat⟩ := Cond.lambdaSite_spec hsite
  obtain ⟨mD, kD, cfD, i0, p0, lk, hmD, hkD, -, -, -, hfind, hmade, hcan, hl'⟩ := State.lambdaAt?_spec hat
  have hWz : Z.WarmedH vm := hz Z rfl
  have hWs : κ.s.WarmedH vm := CC.2.2 κ.s rfl
  have e1 : (Z.setVm vm).methodNamed? x = some mD := by rw [State.methodNamed?_setVm hWz.alike x]; exact hmD
  have e2 : (κ.s.setVm vm).methodNamed? x = some κ.m := by rw [State.methodNamed?_setVm hWs.alike x]; exact hnm
  cases (show some mD = some κ.m from e1.symm.trans e2)
  obtain ⟨kN, hkN, hname⟩ := className_of_methodNamed hmD
  cases hkD.symm.trans hkN
  obtain ⟨kD', hkD', heD⟩ := hWz.alike.2.2 _ _ hkD
  have hfind' : (kD'.callSites.find? fun y => y.1 == κ.m.idx && y.2.1 == pc) = some (i0, p0, lk) := by rw [heD]; exact hfind
  rcases hl' with ⟨a, cell, rfl, -, -, hcell, hcls, hvm, -⟩ | ⟨-, -, hne⟩
  · have hw : κ.e.platform.lambdaLinkWords = 3072 := by rw [X.admits.platform]
    exact Fx.via (fun t z => X.lambdaConstant q1.1 (g := mkF κ.m pc Ls st) rfl (by rw [q1.2.1]; exact hsz) hd hkD' hfind' (by rw [hw]; show 2 * 0 + (st.map fun v => v.category).sum + 3072 ≤ _; omega) z) (g a cK ⟨_, kD, hkD, hname, hmade, hcan⟩ ⟨cell, hcell, hcls, hvm⟩)
  · exact absurd hcap hne
/-- one int in, one int out: the interface's method of a lambda's object, its target a static method with a Met -/
theorem W.callLam (w : W κ l R Z EL own nm mx rt vm T h k n) {host : String} {index count : Nat} {xi y : MethodName} {σ : Lambda.Shape} {bytes : ByteArray} {v r : Int32}
    (hM : Met l y [Cond.code y bytes 1 (some .int)] { frames := 0, cells := 0, slots := 0, locals := 0 } (fun args _ => args = #[.int v]) (fun _ s o t => o = .returned (some (.int r)) ∧ t.heap = s.heap) 0 0 (fun _ => False))
    (w1 : (Cond.methodLink own index xi).before a0 Z = true) (w2 : (Cond.declares xi).before a0 Z = true) (w3 : (Cond.interfaceMethod xi.cls xi.cls xi.name xi.desc).before a0 Z = true) (w4 : (Cond.code y bytes 1 (some .int)).before a0 Z = true) (w5 : (Cond.static y).before a0 Z = true) (w6 : (Cond.initialized y.cls).before a0 Z = true)
    (hxi : xi.cls = σ.iface ∧ xi.name = σ.name ∧ xi.desc = σ.sam.toString) (hy : y.cls = σ.implClass ∧ y.name = σ.implName ∧ y.desc = σ.implDesc.toString) (hpoly : (xi.cls ≠ "java/lang/invoke/MethodHandle" ∧ xi.cls ≠ "java/lang/invoke/VarHandle") ∧ y.cls ≠ "java/lang/invoke/MethodHandle" ∧ y.cls ≠ "java/lang/invoke/VarHandle")
    {a : Addr} {cK : ClassId} (hmd : LamKit.Made Z host σ cK) (hfn : FnAt h a cK) {fcode : ByteArray} {idx ci : Nat} (hok : fwdOK σ host fcode 2 (some .int) idx ci = true) (f0 : decode fcode 0 = .ok (.iload_n 1, 1)) (f1 : decode fcode 1 = .ok (.invokestatic idx, 3)) (f4 : decode fcode 4 = .ok (.ireturn, 1))
    (hdx : parseMethodDescriptor xi.desc = some ⟨[.int], some .int⟩) (hdy : parseMethodDescriptor y.desc = some ⟨[.int], some .int⟩)
    (hsz : Ls.size = mx) (hd : decode κ.c.code pc = .ok (.invokeinterface index count, 5)) {Wd : Nat} (hWd : (st.map fun v => v.category).sum ≤ Wd) (hf : 2 ≤ R.frames) (hl : Wd + 25 ≤ R.locals) (hc : k ≤ R.cells) (hs : n ≤ R.slots)
    (g : ∀ T' : State, W κ l R Z EL own nm mx rt vm T' h k n → Go κ G T' (pc + 5) Ls (.int r :: st)) : Go κ G T pc Ls (.int v :: .ref a :: st) := by
  have hz := w.nwz
  obtain ⟨q1, L, k0, X, e, hS, hk, hZ, ho, N, CC⟩ := w
  have hmd' : LamKit.Made (κ.s.setVm vm) host σ cK := madeWarm (t := κ.s.setVm vm) (hz Z rfl) hmd
  obtain ⟨v', s', t, T', L', X', hL, e1, e3, hq, stp⟩ := callLamS X q1.1 (own := own) (host := host) (index := index) (count := count) (xi := xi) (y := y) (σ := σ) (bytes := bytes) (maxL := 1) (ret := some .int) hM (fun _ _ _ _ h => h) rfl rfl
    (fun w hw' a' U hU => by rw [List.mem_singleton.mp hw']; exact mv (wtrans (s := κ.s.setVm vm) hZ hU) w4) (List.mem_singleton.mpr rfl)
    ho (mvT (s := κ.s.setVm vm) hZ w1) (mvT (s := κ.s.setVm vm) hZ w2) (mvT (s := κ.s.setVm vm) hZ w3 (by simp [Cond.onTables, Cond.keepsFace, Cond.keeps, Cond.steady, Cond.faceAtom]; exact hpoly.1)) (mvT (s := κ.s.setVm vm) hZ w4) (mvT (s := κ.s.setVm vm) hZ w5) (mvT (s := κ.s.setVm vm) hZ w6) hxi hy hpoly hmd' (by rw [e]; exact hfn) hok f1 f4
    (g := mkF κ.m pc Ls (.int v :: .ref a :: st)) rfl (by rw [q1.2.1]; exact hsz) (argsL := [.int v]) (argsT := [.int v]) (rest := st) (L0 := #[.val (.ref a), .val (.int v)])
    (fun sig h => by cases hdx.symm.trans h; rfl) (fun sig h => by cases hdy.symm.trans h; rfl)
    rfl hd (fun _ => by simp [entryFrame, argsToLocals, Value.category]) rfl
    (fun U ck bl target hU hck _ _ z => XS.iloadN hU q1.1 rfl (by show decode ck.code 0 = _; rw [hck]; exact f0) rfl z)
    (fun st w t h => by cases h.1; exact Or.inl ⟨.int, _, rfl, Or.inl rfl, rfl, rfl, rfl⟩) hf (by show 2 * 0 + (st.map fun v => v.category).sum + (2 + 11) + (1 + 11 + 0) ≤ R.locals; omega) (by show k + 0 ≤ _; omega) (by show n + 0 ≤ _; omega) (fun _ _ _ => rfl)
  obtain ⟨hq1, hq2⟩ := hq
  cases hq1
  have X'' := Stand.forget (extra := L') X' (fun q hq => (hL q hq).elim)
  exact Fx.via (fun t z => stp t z) (g T' ⟨q1, L, k0, X'', by rw [e1, hq2, e3]; exact e, hS, hk, hZ, ho, N, CC⟩)
/-- the entry, with the method's own name -/
theorem enterN {l : Launch} {Z : State} {EL : List (String × Nat)} {y : MethodName} {bytes : ByteArray} {maxL : Nat} {ret : Option FieldType} {ws : List Jvm.Cond} {rm : Room} {sf : List Addr} {as' : Array Value} {h : Heap} {Q : Option Value → Heap → (Addr → Prop) → Prop} {a0 : Array Value} (hpl : plainName y.cls = true) (hEL : EW Z a0 EL) {Ls : Array Slot} (hef : ∀ m, entryFrame m as' maxL = mkF m 0 Ls [])
    (body : ∀ (κ : Cx) (vm : Vm) (T : State), κ.s.methodNamed? y = some κ.m → κ.c.code = bytes → κ.s.heap = h → W κ l rm Z EL y.cls y.name maxL ret vm T h 0 0 → (∀ x ∈ sf, Safe Z EL vm h x) → Go κ (GQ κ Z EL rm Q) T 0 Ls []) : Ctr l Z EL y bytes maxL ret ws rm sf as' h Q := by
  refine MetFree.of_bodySF (plainFor_of_name hpl) hisR ?_
  intro p e s m args below meth c s₁ Bd hml hP hK
  obtain ⟨rfl, hZ, hh, hC, hSf⟩ := hP
  have hown : s.vm.findClass y.cls = some m.cls := findClass_of_methodNamed Bd.named
  have hnm := (name_of_methodNamed Bd.named Bd.method).1
  have X0 : Stand p l e rm s m args below meth c s₁ [] 0 0 := Stand.of_body Bd
  have e0 : s₁.heap = h := by rw [← hh, Bd.state]; rfl
  have w : W (p, e, s, m, args, below, meth, c) l rm Z EL y.cls y.name maxL ret s.vm s₁ h 0 0 :=
    ⟨⟨Bd.exec, hml, Bd.returns, Bd.notSynchronized, hnm, a0, hEL⟩, [], s.heap.size, X0, e0, (State.WarmedH.refl s).since _, by rw [hh]; exact Nat.le_refl _, hZ, hown, Fr.nil _, by rw [hh]; exact CRn.refl hC⟩
  obtain ⟨v, B, h1, h2, h3, L, h4, h5, h6⟩ := body (p, e, s, m, args, below, meth, c) s.vm s₁ Bd.named Bd.bytes hh w hSf
  refine ⟨B, .returned v, castTop (hef m) h1, h2, h3, v, L, rfl, h4, h5, h6⟩
/-- the identity's Met -/
theorem idMet {y : MethodName} {bytes : ByteArray} (hpl : plainName y.cls = true) (d0 : decode bytes 0 = .ok (.iload_n 0, 1)) (d1 : decode bytes 1 = .ok (.ireturn, 1)) (l : Launch) (v : Int32) : Met l y [Cond.code y bytes 1 (some .int)] { frames := 0, cells := 0, slots := 0, locals := 0 } (fun args _ => args = #[.int v]) (fun _ s o t => o = .returned (some (.int v)) ∧ t.heap = s.heap) 0 0 (fun _ => False) := by
  refine MetFree.of_bodyS (code := bytes) (maxLocals := 1) (ret := some .int) hpl (hisOf (List.mem_singleton.mpr rfl)) ?_
  intro p e s m args below meth c s₁ Bd hml hP _
  obtain rfl : args = #[.int v] := hP
  have X := Stand.of_body Bd
  obtain ⟨fs, hr, hrun, hended, hW, hsame⟩ := X.leave (v := some (.int v)) (fun h => by rw [Bd.returns] at h; cases h)
  refine ⟨s₁.setFrames fs, _, ?_, hrun, hended, ⟨rfl, by rw [Bd.state]; rfl⟩, [], ⟨⟨_, rfl⟩, hW, hsame⟩, fun q hq => nomatch hq⟩
  show Steps p.tables e below (s₁.setTop (mkF m 0 #[.val (.int v)] [])) _
  refine XS.iloadN X.here Bd.exec rfl (by show decode c.code 0 = _; rw [Bd.bytes]; exact d0) rfl ?_
  exact X.ireturnOut Bd.exec Bd.returns rfl (Or.inl rfl) (by rw [Bd.bytes]; exact d1) hr
end Lam
end Jvm.WK
namespace Jvm.Pilot.@@N@@
open Jvm Jvm.ClassFile Sem Op Lib Jvm.Free Jvm.Stand Jvm.LawKit Jvm.RoadKit Jvm.WK Bundle Jvm.Pilot.@@N@@.Jvm.D
def Rn (qs : List Nat) : Nat → Nat → Nat → Prop
  | 0, x, r => x = r ∧ qs[x]? = some x
  | k + 1, x, r => ∃ y, qs[x]? = some y ∧ y ≠ x ∧ Rn qs k y r
theorem Rn.fix {qs : List Nat} : ∀ {k x r : Nat}, Rn qs k x r → qs[r]? = some r
  | 0, x, r, h => by obtain ⟨rfl, h⟩ := h; exact h
  | k + 1, x, r, h => by obtain ⟨y, -, -, h⟩ := h; exact Rn.fix h
theorem Rn.fn {qs : List Nat} : ∀ {k j x r s : Nat}, Rn qs k x r → Rn qs j x s → r = s
  | 0, 0, x, r, s, h, g => by rw [← h.1, ← g.1]
  | 0, j + 1, x, r, s, h, g => by
    obtain ⟨y, g1, g2, -⟩ := g
    rw [h.2] at g1; exact absurd (Option.some.inj g1).symm g2
  | k + 1, 0, x, r, s, h, g => by
    obtain ⟨y, h1, h2, -⟩ := h
    rw [g.2] at h1; exact absurd (Option.some.inj h1).symm h2
  | k + 1, j + 1, x, r, s, h, g => by
    obtain ⟨y, h1, -, h3⟩ := h
    obtain ⟨z, g1, -, g3⟩ := g
    rw [h1] at g1
    cases g1
    exact Rn.fn h3 g3
theorem set_ne {qs : List Nat} {x z r : Nat} (h : z ≠ x) : (qs.set x r)[z]? = qs[z]? := by rw [List.getElem?_set_ne (Ne.symm h)]
theorem set_eq {qs : List Nat} {x r : Nat} (h : x < qs.length) : (qs.set x r)[x]? = some r := by rw [List.getElem?_set_self h]
theorem lt_of {qs : List Nat} {x y : Nat} (h : qs[x]? = some y) : x < qs.length := (List.getElem?_eq_some_iff.mp h).1
/-- path compression -/
theorem Rn.comp {qs : List Nat} {x r j : Nat} (hx : Rn qs j x r) (hl : x < qs.length) : ∀ {k z s : Nat}, Rn qs k z s → ∃ k', k' ≤ k ∧ Rn (qs.set x r) k' z s
  | 0, z, s, h => by
    obtain ⟨rfl, h⟩ := h
    refine ⟨0, Nat.le_refl _, rfl, ?_⟩
    by_cases q : z = x
    · subst q
      have : z = r := Rn.fn (k := 0) (j := j) ⟨rfl, h⟩ hx
      subst this
      exact set_eq hl
    · rw [set_ne q]; exact h
  | k + 1, z, s, h => by
    have h0 := h
    obtain ⟨y, h1, h2, h3⟩ := h
    by_cases q : z = x
    · subst q
      have e : s = r := Rn.fn h0 hx
      subst e
      by_cases q2 : s = z
      · subst q2
        exact ⟨0, Nat.zero_le _, rfl, set_eq hl⟩
      · exact ⟨1, by omega, s, set_eq hl, q2, rfl, by rw [set_ne q2]; exact hx.fix⟩
    · obtain ⟨k', hk, h4⟩ := Rn.comp hx hl h3
      exact ⟨k' + 1, by omega, y, by rw [set_ne q]; exact h1, h2, h4⟩
/-- hanging one root below another -/
theorem Rn.join {qs : List Nat} {ri rj : Nat} (hi : qs[ri]? = some ri) (hj : qs[rj]? = some rj) : ∀ {k z s : Nat}, Rn qs k z s → ∃ k', Rn (qs.set ri rj) k' z (if s = ri then rj else s)
  | 0, z, s, h => by
    obtain ⟨rfl, h⟩ := h
    by_cases q : z = ri
    · subst q
      rw [if_pos rfl]
      by_cases q2 : rj = z
      · subst q2; exact ⟨0, rfl, set_eq (lt_of hi)⟩
      · exact ⟨1, rj, set_eq (lt_of hi), q2, rfl, by rw [set_ne q2]; exact hj⟩
    · rw [if_neg q]; exact ⟨0, rfl, by rw [set_ne q]; exact h⟩
  | k + 1, z, s, h => by
    obtain ⟨y, h1, h2, h3⟩ := h
    obtain ⟨k', h4⟩ := Rn.join hi hj h3
    have q : z ≠ ri := fun q => by subst q; rw [hi] at h1; exact h2 (Option.some.inj h1).symm
    exact ⟨k' + 1, y, by rw [set_ne q]; exact h1, h2, h4⟩
/-- the array qs of n parents stands for the map ρ to the roots -/
def Rep (qs : List Nat) (ρ : Nat → Nat) (n : Nat) : Prop := qs.length = n ∧ (∀ y ∈ qs, y < n) ∧ ∀ x, x < n → ∃ k, Rn qs k x (ρ x)
theorem Rn.lt {qs : List Nat} {k x r : Nat} (h : Rn qs k x r) : r < qs.length := lt_of h.fix
theorem Rep.lt {qs : List Nat} {ρ : Nat → Nat} {n x : Nat} (R : Rep qs ρ n) (hx : x < n) : ρ x < n := by
  obtain ⟨k, h⟩ := R.2.2 x hx
  rw [← R.1]; exact h.lt
theorem Rep.root {qs : List Nat} {ρ : Nat → Nat} {n x : Nat} (R : Rep qs ρ n) (hx : x < n) : qs[ρ x]? = some (ρ x) := by
  obtain ⟨k, h⟩ := R.2.2 x hx
  exact h.fix
theorem Rep.idem {qs : List Nat} {ρ : Nat → Nat} {n x : Nat} (R : Rep qs ρ n) (hx : x < n) : ρ (ρ x) = ρ x := by
  obtain ⟨k, h⟩ := R.2.2 (ρ x) (R.lt hx)
  exact Rn.fn h (j := 0) ⟨rfl, R.root hx⟩
theorem mem_set_lt {qs : List Nat} {n i v : Nat} (h : ∀ y ∈ qs, y < n) (hv : v < n) : ∀ y ∈ qs.set i v, y < n := fun y hy => (List.mem_or_eq_of_mem_set hy).elim (h y) (fun e => by rw [e]; exact hv)
theorem Rep.comp {qs : List Nat} {ρ : Nat → Nat} {n x : Nat} (R : Rep qs ρ n) (hx : x < n) : Rep (qs.set x (ρ x)) ρ n := by
  obtain ⟨j, hj⟩ := R.2.2 x hx
  refine ⟨by rw [List.length_set]; exact R.1, mem_set_lt R.2.1 (R.lt hx), fun z hz => ?_⟩
  obtain ⟨k, h⟩ := R.2.2 z hz
  obtain ⟨k', -, h'⟩ := Rn.comp hj (by rw [R.1]; exact hx) h
  exact ⟨k', h'⟩
theorem Rep.join {qs : List Nat} {ρ : Nat → Nat} {n i j : Nat} (R : Rep qs ρ n) (hi : i < n) (hj : j < n) : Rep (qs.set (ρ i) (ρ j)) (fun x => if ρ x = ρ i then ρ j else ρ x) n := by
  refine ⟨by rw [List.length_set]; exact R.1, mem_set_lt R.2.1 (R.lt hj), fun z hz => ?_⟩
  obtain ⟨k, h⟩ := R.2.2 z hz
  exact Rn.join (R.root hi) (R.root hj) h
theorem Rep.id {n : Nat} : Rep (List.range n) (fun x => x) n := ⟨List.length_range, fun y hy => List.mem_range.mp hy, fun x hx => ⟨0, rfl, by rw [List.getElem?_range hx]⟩⟩
abbrev ns (qs : List Nat) : List Int32 := qs.map Int32.ofNat
theorem ns_at {qs : List Nat} {i y : Nat} (h : qs[i]? = some y) : (ns qs)[i]? = some (Int32.ofNat y) := by rw [List.getElem?_map, h]; rfl
theorem fnExt {h h' : Heap} {a : Addr} {cK : ClassId} (F : LamKit.FnAt h a cK) (E : Ext h h') : LamKit.FnAt h' a cK := by
  obtain ⟨cell, h1, h2⟩ := F; exact ⟨cell, E.2 _ _ h1, h2⟩
def fcode : ByteArray := ⟨#[0x1b, 0xb8, 0x00, 0x11, 0xac]⟩
theorem f0 : decode fcode 0 = .ok (.iload_n 1, 1) := by decide +kernel
theorem f1 : decode fcode 1 = .ok (.invokestatic 17, 3) := by decide +kernel
theorem f4 : decode fcode 4 = .ok (.ireturn, 1) := by decide +kernel
abbrev sg : Lambda.Shape := (Jvm.Lambda.Shape.mk "java/util/function/IntUnaryOperator" "applyAsInt" (Jvm.ClassFile.MethodDescriptor.mk ([Jvm.ClassFile.FieldType.int] : List Jvm.ClassFile.FieldType) (Option.some Jvm.ClassFile.FieldType.int)) ([] : List Jvm.ClassFile.FieldType) (6 : Nat) "com/example/isomark/isomark/DisjointSets" "lambda$new$0" (Jvm.ClassFile.MethodDescriptor.mk ([Jvm.ClassFile.FieldType.int] : List Jvm.ClassFile.FieldType) (Option.some Jvm.ClassFile.FieldType.int)) false (Jvm.ClassFile.MethodDescriptor.mk ([Jvm.ClassFile.FieldType.int] : List Jvm.ClassFile.FieldType) (Option.some Jvm.ClassFile.FieldType.int)))
theorem fwd : LamKit.fwdOK sg "com/example/isomark/isomark/DisjointSets" fcode 2 (some .int) 17 14 = true := by decide +kernel
theorem t0 : decode prog_32_method_4_code 0 = .ok (.iload_n 0, 1) := by decide +kernel
theorem t1 : decode prog_32_method_4_code 1 = .ok (.ireturn, 1) := by decide +kernel
theorem pd0 : parseMethodDescriptor "(Ljava/lang/Object;)Ljava/lang/Object;" = some ⟨[(.object "java/lang/Object")], (some (.object "java/lang/Object"))⟩ := by decide +kernel
theorem pd1 : parseMethodDescriptor "(I)I" = some ⟨[.int], (some .int)⟩ := by decide +kernel
theorem pd2 : parseMethodDescriptor "([ILjava/util/function/IntUnaryOperator;)V" = some ⟨[(.array .int), (.object "java/util/function/IntUnaryOperator")], none⟩ := by decide +kernel
theorem pd3 : parseMethodDescriptor "(I)V" = some ⟨[.int], none⟩ := by decide +kernel
theorem pd4 : parseMethodDescriptor "(II)V" = some ⟨[.int, .int], none⟩ := by decide +kernel
theorem pd5 : parseMethodDescriptor "(I)Z" = some ⟨[.int], (some .boolean)⟩ := by decide +kernel
theorem pd6 : parseMethodDescriptor "([I[III)Z" = some ⟨[(.array .int), (.array .int), .int, .int], (some .boolean)⟩ := by decide +kernel
def D_rnn : List (Nat × Instr × Nat) := [(0, .aload_n 0, 1), (1, .ifnonnull 11, 3), (4, .new 84, 3), (7, .dup, 1), (8, .invokespecial 86, 3), (11, .athrow, 1), (12, .aload_n 0, 1), (13, .areturn, 1)]
theorem hD_rnn : ∀ q ∈ D_rnn, decode jdk_31_method_10_code q.1 = .ok q.2 := by decide +kernel
set_option maxRecDepth 65536 in
set_option maxHeartbeats 4000000 in
theorem c_rnn (l : Launch) (Z : State) (a0 : Array Value) (hw : ∀ d ∈ tables_1, d.before a0 Z = true) (hEL : EW Z a0 []) {t : Addr} {h : Heap} : Ctr l Z [] (⟨"java/util/Objects", "requireNonNull", "(Ljava/lang/Object;)Ljava/lang/Object;"⟩ : MethodName) jdk_31_method_10_code 1 (some (.object "java/lang/Object")) [] ({ frames := 0, cells := 0, slots := 0, locals := 0 } : Room) [] #[(.ref t)] h (fun v h' S => h = h' ∧ v = some (.ref t)) := by
  refine enter (a0 := a0) (by first | (simp [plainName, overriddenIn]; done) | decide +kernel) hEL (Ls := #[.val (.ref t)]) (fun m => by first | (simp [entryFrame, mkF, argsToLocals, Value.category]; done) | rfl) ?_
  intro κ vm T hby hs w Sf
  have dc := Dec.of hby hD_rnn
  show Go κ (GQ κ Z [] ({ frames := 0, cells := 0, slots := 0, locals := 0 } : Room) (fun v h' S => h = h' ∧ v = some (.ref t))) T 0 #[.val (.ref t)] []
  refine blk (pc' := 1) (Ls' := #[.val (.ref t)]) (st' := [(.ref t)]) [oAloadN w.ok (dc.g 0 rfl)] rfl ?_
  refine nnRef (pc' := 12) w.ok (dc.g 1 rfl) (by decide) (by decide) ?_
  show Go κ _ T 12 #[.val (.ref t)] []
  refine blk (pc' := 13) (Ls' := #[.val (.ref t)]) (st' := [(.ref t)]) [oAloadN w.ok (dc.g 6 rfl)] rfl ?_
  exact w.retA rfl rfl rfl rfl (dc.g 7 rfl) (by decide) (by decide) (fun S hS => ⟨rfl, rfl⟩)
def D_setall : List (Nat × Instr × Nat) := [(0, .aload_n 1, 1), (1, .invokestatic 175, 3), (4, .pop, 1), (5, .iconst 0, 1), (6, .istore_n 2, 1), (7, .iload_n 2, 1), (8, .aload_n 0, 1), (9, .arraylength, 1), (10, .if_icmp .ge 19, 3), (13, .aload_n 0, 1), (14, .iload_n 2, 1), (15, .aload_n 1, 1), (16, .iload_n 2, 1), (17, .invokeinterface 582 2, 5), (22, .iastore, 1), (23, .iinc 2 1, 3), (26, .goto (-19), 3), (29, .return_, 1)]
theorem hD_setall : ∀ q ∈ D_setall, decode jdk_65_method_175_code q.1 = .ok q.2 := by decide +kernel
set_option maxRecDepth 65536 in
set_option maxHeartbeats 4000000 in
theorem c_setall (l : Launch) (Z : State) (a0 : Array Value) (hw : ∀ d ∈ tables_1, d.before a0 Z = true) (hEL : EW Z a0 []) {A f : Addr} {cK : ClassId} {n : Nat} {vs : List Int32} {h : Heap} (oz : Ext Z.heap h) (FA : Ary Z h A .int vs) (hl : vs.length = n) (hn : n ≤ 5) (hA0 : Z.heap.size ≤ A) (hmd : LamKit.Made Z "com/example/isomark/isomark/DisjointSets" sg cK) (hfn : LamKit.FnAt Z.heap f cK) : Ctr l Z [] (⟨"java/util/Arrays", "setAll", "([ILjava/util/function/IntUnaryOperator;)V"⟩ : MethodName) jdk_65_method_175_code 3 none [] ({ frames := 2, cells := 0, slots := 0, locals := 27 } : Room) [] #[(.ref A), (.ref f)] h (fun v h' S => v = none ∧ Keep h h' [A] ∧ Ary Z h' A .int (ns (List.range n))) := by
  refine enter (a0 := a0) (by first | (simp [plainName, overriddenIn]; done) | decide +kernel) hEL (Ls := #[.val (.ref A), .val (.ref f), .unset]) (fun m => by first | (simp [entryFrame, mkF, argsToLocals, Value.category]; done) | rfl) ?_
  intro κ vm T hby hs w Sf
  have dc := Dec.of hby hD_setall
  show Go κ (GQ κ Z [] ({ frames := 2, cells := 0, slots := 0, locals := 27 } : Room) (fun v h' S => v = none ∧ Keep h h' [A] ∧ Ary Z h' A .int (ns (List.range n)))) T 0 #[.val (.ref A), .val (.ref f), .unset] []
  have ozs : Ext Z.heap κ.s.heap := by rw [hs]; exact oz
  refine blk (pc' := 1) (Ls' := #[.val (.ref A), .val (.ref f), .unset]) (st' := [(.ref f)]) [oAloadN w.ok (dc.g 0 rfl)] rfl ?_
  refine w.callS (wd hw 19 rfl) (wd hw 20 rfl) (wd hw 21 rfl) (wd hw 22 rfl) (by decide) (argsL := [(.ref f)]) (Wd := 0) (Ctr.pays (len := 3) (Wd := 0) (c_rnn l Z a0 hw hEL) w (wd hw 22 rfl) (wd hw 21 rfl) hEL (by decide) (by decide) sfNil) pd0 rfl (st := []) rfl rfl (Nat.le_of_eq rfl) (dc.g 1 rfl) (by decide) (by decide) ?_
  intro vm1 T2 h3 v4 w5 C6 Q7
  obtain ⟨eQ7, rfl⟩ := Q7
  subst eQ7
  show Go κ _ T2 4 #[.val (.ref A), .val (.ref f), .unset] [(.ref f)]
  refine blk (pc' := 7) (Ls' := #[.val (.ref A), .val (.ref f), .val (.int (0 : Int32))]) (st' := []) [oPop w5.ok (dc.g 2 rfl), oIconst w5.ok (dc.g 3 rfl), oIstoreN w5.ok (dc.g 4 rfl)] rfl ?_
  have key : ∀ (g i : Nat), i + g = n → ∀ (vm1 : Vm) (T1 : State) (h1 : Heap), W κ l ({ frames := 2, cells := 0, slots := 0, locals := 27 } : Room) Z [] "java/util/Arrays" "setAll" 3 none vm1 T1 h1 0 0 → Ary Z h1 A .int (ns (List.range i) ++ vs.drop i) → Keep h h1 [A] → Go κ (GQ κ Z [] ({ frames := 2, cells := 0, slots := 0, locals := 27 } : Room) (fun v h' S => v = none ∧ Keep h h' [A] ∧ Ary Z h' A .int (ns (List.range n)))) T1 7 #[.val (.ref A), .val (.ref f), .val (.int (Int32.ofNat i))] [] := by
    intro g
    induction g with
    | zero =>
      intro i hi vm1 T1 h1 w1 F1 K1
      obtain rfl : i = n := by omega
      have e1 : ns (List.range i) ++ vs.drop i = ns (List.range i) := by rw [List.drop_eq_nil_of_le (by omega), List.append_nil]
      rw [e1] at F1
      have e2 : (ns (List.range i)).length = i := by simp
      show Go κ _ T1 7 #[.val (.ref A), .val (.ref f), .val (.int (Int32.ofNat i))] []
      refine blk (pc' := 9) (Ls' := #[.val (.ref A), .val (.ref f), .val (.int (Int32.ofNat i))]) (st' := [(.ref A), (.int (Int32.ofNat i))]) [oIloadN w1.ok (dc.g 5 rfl), oAloadN w1.ok (dc.g 6 rfl)] rfl ?_
      refine w1.len F1 (dc.g 7 rfl) ?_
      show Go κ _ T1 10 #[.val (.ref A), .val (.ref f), .val (.int (Int32.ofNat i))] [(.int (Int32.ofNat (ns (List.range i)).length)), (.int (Int32.ofNat i))]
      rw [e2]
      show Go κ _ T1 10 #[.val (.ref A), .val (.ref f), .val (.int (Int32.ofNat i))] [(.int (Int32.ofNat i)), (.int (Int32.ofNat i))]
      refine cGe (pc' := 29) w1.ok (dc.g 8 rfl) (by decide) (by decide) (fun hc8 => ?_) (fun hc8 => absurd hc8 (fun q => absurd q (by rw [ofNat_lt (by omega) (by omega)]; omega)))
      show Go κ _ T1 29 #[.val (.ref A), .val (.ref f), .val (.int (Int32.ofNat i))] []
      exact w1.retV (dc.g 17 rfl) (by decide) (by decide) (fun S hS => ⟨rfl, K1, F1⟩)
    | succ g ih =>
      intro i hi vm1 T1 h1 w1 F1 K1
      have e2 : (ns (List.range i) ++ vs.drop i).length = n := by simp; omega
      show Go κ _ T1 7 #[.val (.ref A), .val (.ref f), .val (.int (Int32.ofNat i))] []
      refine blk (pc' := 9) (Ls' := #[.val (.ref A), .val (.ref f), .val (.int (Int32.ofNat i))]) (st' := [(.ref A), (.int (Int32.ofNat i))]) [oIloadN w1.ok (dc.g 5 rfl), oAloadN w1.ok (dc.g 6 rfl)] rfl ?_
      refine w1.len F1 (dc.g 7 rfl) ?_
      show Go κ _ T1 10 #[.val (.ref A), .val (.ref f), .val (.int (Int32.ofNat i))] [(.int (Int32.ofNat (ns (List.range i) ++ vs.drop i).length)), (.int (Int32.ofNat i))]
      rw [e2]
      show Go κ _ T1 10 #[.val (.ref A), .val (.ref f), .val (.int (Int32.ofNat i))] [(.int (Int32.ofNat n)), (.int (Int32.ofNat i))]
      refine cGe (pc' := 29) w1.ok (dc.g 8 rfl) (by decide) (by decide) (fun hc9 => absurd ((ofNat_lt (by omega) (by omega)).mpr (by omega)) hc9) (fun hc9 => ?_)
      show Go κ _ T1 13 #[.val (.ref A), .val (.ref f), .val (.int (Int32.ofNat i))] []
      refine blk (pc' := 17) (Ls' := #[.val (.ref A), .val (.ref f), .val (.int (Int32.ofNat i))]) (st' := [(.int (Int32.ofNat i)), (.ref f), (.int (Int32.ofNat i)), (.ref A)]) [oAloadN w1.ok (dc.g 9 rfl), oIloadN w1.ok (dc.g 10 rfl), oAloadN w1.ok (dc.g 11 rfl), oIloadN w1.ok (dc.g 12 rfl)] rfl ?_
      refine w1.callLam (xi := (⟨"java/util/function/IntUnaryOperator", "applyAsInt", "(I)I"⟩ : MethodName)) (y := (⟨"com/example/isomark/isomark/DisjointSets", "lambda$new$0", "(I)I"⟩ : MethodName)) (σ := sg) (v := Int32.ofNat i) (r := Int32.ofNat i) (idMet (by decide +kernel) t0 t1 l _) (wd hw 23 rfl) (wd hw 24 rfl) (wd hw 25 rfl) (wd hw 27 rfl) (wd hw 26 rfl) (wd hw 2 rfl) (by decide +kernel) (by decide +kernel) (by decide) hmd (fnExt hfn (w1.old ozs)) fwd f0 f1 f4 pd1 pd1 rfl (dc.g 13 rfl) (Wd := 2) (Nat.le_of_eq rfl) (by decide) (by decide) (by decide) (by decide) ?_
      intro T10 w11
      show Go κ _ T10 22 #[.val (.ref A), .val (.ref f), .val (.int (Int32.ofNat i))] [(.int (Int32.ofNat i)), (.int (Int32.ofNat i)), (.ref A)]
      refine w11.ist F1 (i := i) rfl (by rw [e2]; omega) hA0 (dc.g 14 rfl) ?_
      intro T12 h14 w13 W15 F16
      show Go κ _ T12 23 #[.val (.ref A), .val (.ref f), .val (.int (Int32.ofNat i))] []
      obtain ⟨slW15, vvW15, WW15⟩ := W15
      refine blk (pc' := 7) (Ls' := #[.val (.ref A), .val (.ref f), .val (.int ((Int32.ofNat i) + (1 : Int32)))]) (st' := []) [oIinc w13.ok (dc.g 15 rfl), oGoto w13.ok 7 (dc.g 16 rfl)] rfl ?_
      rw [ofNat_succ]
      refine ih (i + 1) (by omega) _ _ _ w13 ?_ (K1.wr WW15 (Or.inl (List.mem_of_getElem? (i := 0) rfl)))
      have e3 : (ns (List.range i) ++ vs.drop i).set i (Int32.ofNat i) = ns (List.range (i + 1)) ++ vs.drop (i + 1) := by
        have hlr : (ns (List.range i)).length = i := by simp
        rw [List.set_append_right _ _ (by omega), hlr, Nat.sub_self, List.drop_eq_getElem_cons (show i < vs.length by omega), List.set_cons_zero, List.range_succ]
        simp [ns]
      rw [e3] at F16; exact F16
  exact key n 0 (by omega) _ _ _ w5 (by simpa using FA) (Keep.refl _ _)
def D_init : List (Nat × Instr × Nat) := [(0, .aload_n 0, 1), (1, .invokespecial 1, 3), (4, .aload_n 0, 1), (5, .iload_n 1, 1), (6, .newarray .int, 2), (8, .putfield 7, 3), (11, .aload_n 0, 1), (12, .getfield 7, 3), (15, .invokedynamic 13, 5), (20, .invokestatic 17, 3), (23, .return_, 1)]
theorem hD_init : ∀ q ∈ D_init, decode prog_32_method_1_code q.1 = .ok q.2 := by decide +kernel
set_option maxRecDepth 65536 in
set_option maxHeartbeats 4000000 in
theorem c_init (l : Launch) (Z : State) (a0 : Array Value) (hw : ∀ d ∈ tables_1, d.before a0 Z = true) (hEL : EW Z a0 []) {d : Addr} {h : Heap} (oz : Ext Z.heap h) (X : Exa Z h d "com/example/isomark/isomark/DisjointSets") (FP : Fld Z h d "com/example/isomark/isomark/DisjointSets" "parent" "[I" .null) (hd0 : Z.heap.size ≤ d) : Ctr l Z [] (⟨"com/example/isomark/isomark/DisjointSets", "<init>", "(I)V"⟩ : MethodName) prog_32_method_1_code 2 none [] ({ frames := 3, cells := 1, slots := 4, locals := 3074 } : Room) [] #[(.ref d), (.int (4 : Int32))] h (fun v h' S => v = none ∧ Keep h h' [d] ∧ Exa Z h' d "com/example/isomark/isomark/DisjointSets" ∧ ∃ A, Fld Z h' d "com/example/isomark/isomark/DisjointSets" "parent" "[I" (.ref A) ∧ h.size ≤ A ∧ Ary Z h' A .int (ns (List.range 4))) := by
  refine enterN (a0 := a0) (by first | (simp [plainName, overriddenIn]; done) | decide +kernel) hEL (Ls := #[.val (.ref d), .val (.int (4 : Int32))]) (fun m => by first | (simp [entryFrame, mkF, argsToLocals, Value.category]; done) | rfl) ?_
  intro κ vm T hnm hby hs w Sf
  have dc := Dec.of hby hD_init
  show Go κ (GQ κ Z [] ({ frames := 3, cells := 1, slots := 4, locals := 3074 } : Room) (fun v h' S => v = none ∧ Keep h h' [d] ∧ Exa Z h' d "com/example/isomark/isomark/DisjointSets" ∧ ∃ A, Fld Z h' d "com/example/isomark/isomark/DisjointSets" "parent" "[I" (.ref A) ∧ h.size ≤ A ∧ Ary Z h' A .int (ns (List.range 4)))) T 0 #[.val (.ref d), .val (.int (4 : Int32))] []
  have ozs : Ext Z.heap κ.s.heap := by rw [hs]; exact oz
  refine blk (pc' := 1) (Ls' := #[.val (.ref d), .val (.int (4 : Int32))]) (st' := [(.ref d)]) [oAloadN w.ok (dc.g 0 rfl)] rfl ?_
  refine w.initO (wd hw 6 rfl) (wd hw 7 rfl) (wd hw 8 rfl) rfl (dc.g 1 rfl) (by decide) (Wd := 0) (Nat.le_of_eq rfl) (by decide) ?_
  intro T17 w18
  show Go κ _ T17 4 #[.val (.ref d), .val (.int (4 : Int32))] []
  refine blk (pc' := 6) (Ls' := #[.val (.ref d), .val (.int (4 : Int32))]) (st' := [(.int (4 : Int32)), (.ref d)]) [oAloadN w18.ok (dc.g 2 rfl), oIloadN w18.ok (dc.g 3 rfl)] rfl ?_
  refine w18.newarr (aty := .int) (wd hw 9 rfl) (dc.g 4 rfl) (c := 4) (by decide) (by decide) (cap := 4) (by first | decide | omega) (by first | decide | omega) (by decide) (by decide) rfl rfl ?_
  intro T19 h21 x22 w20 g23 E24 F25 S26
  show Go κ _ T19 8 #[.val (.ref d), .val (.int (4 : Int32))] [(.ref x22), (.ref d)]
  have X1 := X.ext E24
  refine w20.put (wd hw 10 rfl) (FP.ext E24) X1 (Or.inr ⟨(wd hw 11 rfl), rfl, rfl⟩) (wd hw 1 rfl) (ty := (.array .int)) (by decide) rfl rfl safe_nil hd0 (dc.g 5 rfl) ?_
  intro T27 h29 w28 W30 S31
  show Go κ _ T27 11 #[.val (.ref d), .val (.int (4 : Int32))] []
  have hne : x22 ≠ d := F25.ne_exa X1 (wd hw 1 rfl)
  have F1 := F25.other W30 hne
  have G1 : Fld Z h29 d "com/example/isomark/isomark/DisjointSets" "parent" "[I" (.ref x22) := (FP.ext E24).same W30
  have X2 := X1.wr W30
  have K1 := ((Keep.refl h [d]).ext E24).wr W30 (Or.inl (List.mem_of_getElem? (i := 0) rfl))
  refine blk (pc' := 12) (Ls' := #[.val (.ref d), .val (.int (4 : Int32))]) (st' := [(.ref d)]) [oAloadN w28.ok (dc.g 6 rfl)] rfl ?_
  refine w28.get (wd hw 10 rfl) G1 (dc.g 7 rfl) ?_
  intro T32 w33
  show Go κ _ T32 15 #[.val (.ref d), .val (.int (4 : Int32))] [(.ref x22)]
  refine w33.lamC (x := (⟨"com/example/isomark/isomark/DisjointSets", "<init>", "(I)V"⟩ : MethodName)) hnm (σ := sg) (wd hw 12 rfl) rfl rfl (dc.g 8 rfl) (Wd := 1) (Nat.le_of_eq rfl) (by decide) ?_
  intro f cK hmd hfn
  show Go κ _ T32 20 #[.val (.ref d), .val (.int (4 : Int32))] [(.ref f), (.ref x22)]
  refine w33.callS (wd hw 15 rfl) (wd hw 16 rfl) (wd hw 17 rfl) (wd hw 18 rfl) (by decide) (argsL := [(.ref x22), (.ref f)]) (Wd := 0) (Ctr.pays (len := 3) (Wd := 0) (c_setall l Z a0 hw hEL (w33.old ozs) F1 (n := 4) (by simp) (by decide) (by rw [g23]; exact oz.1) hmd hfn) w33 (wd hw 18 rfl) (wd hw 17 rfl) hEL (by decide) (by decide) sfNil) pd2 rfl (st := []) rfl rfl (Nat.le_of_eq rfl) (dc.g 9 rfl) (by decide) (by decide) ?_
  intro vm34 T35 h36 v37 w38 C39 Q40
  obtain ⟨rfl, K2, F2⟩ := Q40
  show Go κ _ T35 23 #[.val (.ref d), .val (.int (4 : Int32))] []
  exact w38.retV (dc.g 10 rfl) (by decide) (by decide) (fun S hS => ⟨rfl, K1.trans K2 (allS (Or.inr (by rw [g23]; exact Nat.le_refl _)) all0), X2.keep K2, x22, G1.keep K2 (ninS (Ne.symm hne) nin0), by rw [g23]; exact Nat.le_refl _, F2⟩)
def D_root : List (Nat × Instr × Nat) := [(0, .iload_n 1, 1), (1, .istore_n 2, 1), (2, .aload_n 0, 1), (3, .getfield 7, 3), (6, .iload_n 2, 1), (7, .iaload, 1), (8, .iload_n 2, 1), (9, .if_icmp .eq 13, 3), (12, .aload_n 0, 1), (13, .getfield 7, 3), (16, .iload_n 2, 1), (17, .iaload, 1), (18, .istore_n 2, 1), (19, .goto (-17), 3), (22, .aload_n 0, 1), (23, .getfield 7, 3), (26, .iload_n 1, 1), (27, .iaload, 1), (28, .iload_n 2, 1), (29, .if_icmp .eq 22, 3), (32, .aload_n 0, 1), (33, .getfield 7, 3), (36, .iload_n 1, 1), (37, .iaload, 1), (38, .istore_n 3, 1), (39, .aload_n 0, 1), (40, .getfield 7, 3), (43, .iload_n 1, 1), (44, .iload_n 2, 1), (45, .iastore, 1), (46, .iload_n 3, 1), (47, .istore_n 1, 1), (48, .goto (-26), 3), (51, .iload_n 2, 1), (52, .ireturn, 1)]
theorem hD_root : ∀ q ∈ D_root, decode prog_32_method_2_code q.1 = .ok q.2 := by decide +kernel
set_option maxRecDepth 65536 in
set_option maxHeartbeats 4000000 in
theorem c_root (l : Launch) (Z : State) (a0 : Array Value) (hw : ∀ d ∈ tables_1, d.before a0 Z = true) (hEL : EW Z a0 []) {d A : Addr} {qs : List Nat} {ρ : Nat → Nat} {n x : Nat} {h : Heap} (X : Exa Z h d "com/example/isomark/isomark/DisjointSets") (FP : Fld Z h d "com/example/isomark/isomark/DisjointSets" "parent" "[I" (.ref A)) (FA : Ary Z h A .int (ns qs)) (RP : Rep qs ρ n) (hn : n ≤ 5) (hx : x < n) (hA0 : Z.heap.size ≤ A) : Ctr l Z [] (⟨"com/example/isomark/isomark/DisjointSets", "root", "(I)I"⟩ : MethodName) prog_32_method_2_code 4 (some .int) [] ({ frames := 0, cells := 0, slots := 0, locals := 0 } : Room) [] #[(.ref d), (.int (Int32.ofNat x))] h (fun v h' S => ∃ qs', v = some (.int (Int32.ofNat (ρ x))) ∧ Keep h h' [A] ∧ Ary Z h' A .int (ns qs') ∧ Rep qs' ρ n) := by
  refine enter (a0 := a0) (by first | (simp [plainName, overriddenIn]; done) | decide +kernel) hEL (Ls := #[.val (.ref d), .val (.int (Int32.ofNat x)), .unset, .unset]) (fun m => by first | (simp [entryFrame, mkF, argsToLocals, Value.category]; done) | rfl) ?_
  intro κ vm T hby hs w Sf
  have dc := Dec.of hby hD_root
  show Go κ (GQ κ Z [] ({ frames := 0, cells := 0, slots := 0, locals := 0 } : Room) (fun v h' S => ∃ qs', v = some (.int (Int32.ofNat (ρ x))) ∧ Keep h h' [A] ∧ Ary Z h' A .int (ns qs') ∧ Rep qs' ρ n)) T 0 #[.val (.ref d), .val (.int (Int32.ofNat x)), .unset, .unset] []
  have hAd : A ≠ d := FA.ne_exa X (wd hw 1 rfl)
  have hrx := RP.lt hx
  have key2 : ∀ (g k x' : Nat) (qs' : List Nat), k ≤ g → x' < n → Rep qs' ρ n → Rn qs' k x' (ρ x) → ∀ (T1 : State) (h1 : Heap) (s3 : Slot), W κ l ({ frames := 0, cells := 0, slots := 0, locals := 0 } : Room) Z [] "com/example/isomark/isomark/DisjointSets" "root" 4 (some .int) vm T1 h1 0 0 → Fld Z h1 d "com/example/isomark/isomark/DisjointSets" "parent" "[I" (.ref A) → Ary Z h1 A .int (ns qs') → Keep h h1 [A] → One s3 → Go κ (GQ κ Z [] ({ frames := 0, cells := 0, slots := 0, locals := 0 } : Room) (fun v h' S => ∃ qs', v = some (.int (Int32.ofNat (ρ x))) ∧ Keep h h' [A] ∧ Ary Z h' A .int (ns qs') ∧ Rep qs' ρ n)) T1 22 #[.val (.ref d), .val (.int (Int32.ofNat x')), .val (.int (Int32.ofNat (ρ x))), s3] [] := by
    intro g
    induction g with
    | zero =>
      intro k x' qs' hk hx' R1 hR T1 h1 s3 w1 P1 F1 K1 hs3
      have hl1 := R1.1
      obtain ⟨y, hy, hcase⟩ : ∃ y, qs'[x']? = some y ∧ (y = ρ x ∨ (¬ y = ρ x ∧ ∃ k', k' + 1 = k ∧ Rn qs' k' y (ρ x))) := by
        cases k with
        | zero => exact ⟨x', hR.2, Or.inl hR.1⟩
        | succ k' =>
          obtain ⟨y, a1, a2, a3⟩ := hR
          by_cases q : y = ρ x
          · exact ⟨y, a1, Or.inl q⟩
          · exact ⟨y, a1, Or.inr ⟨q, k', rfl, a3⟩⟩
      have hyn : y < n := R1.2.1 y (List.mem_of_getElem? hy)
      show Go κ _ T1 22 #[.val (.ref d), .val (.int (Int32.ofNat x')), .val (.int (Int32.ofNat (ρ x))), s3] []
      refine blk (pc' := 23) (Ls' := #[.val (.ref d), .val (.int (Int32.ofNat x')), .val (.int (Int32.ofNat (ρ x))), s3]) (st' := [(.ref d)]) [oAloadN w1.ok (dc.g 14 rfl)] rfl ?_
      refine w1.get (wd hw 10 rfl) P1 (dc.g 15 rfl) ?_
      intro T41 w42
      show Go κ _ T41 26 #[.val (.ref d), .val (.int (Int32.ofNat x')), .val (.int (Int32.ofNat (ρ x))), s3] [(.ref A)]
      refine blk (pc' := 27) (Ls' := #[.val (.ref d), .val (.int (Int32.ofNat x')), .val (.int (Int32.ofNat (ρ x))), s3]) (st' := [(.int (Int32.ofNat x')), (.ref A)]) [oIloadN w42.ok (dc.g 16 rfl)] rfl ?_
      refine w42.ild F1 (i := x') rfl (ns_at hy) (dc.g 17 rfl) ?_
      show Go κ _ T41 28 #[.val (.ref d), .val (.int (Int32.ofNat x')), .val (.int (Int32.ofNat (ρ x))), s3] [(.int (Int32.ofNat y))]
      refine blk (pc' := 29) (Ls' := #[.val (.ref d), .val (.int (Int32.ofNat x')), .val (.int (Int32.ofNat (ρ x))), s3]) (st' := [(.int (Int32.ofNat (ρ x))), (.int (Int32.ofNat y))]) [oIloadN w42.ok (dc.g 18 rfl)] rfl ?_
      rcases hcase with rfl | ⟨hne, k', hk', hR'⟩
      · show Go κ _ T41 29 #[.val (.ref d), .val (.int (Int32.ofNat x')), .val (.int (Int32.ofNat (ρ x))), s3] [(.int (Int32.ofNat (ρ x))), (.int (Int32.ofNat (ρ x)))]
        refine cEq (pc' := 51) w42.ok (dc.g 19 rfl) (by decide) (by decide) (fun hc43 => ?_) (fun hc43 => absurd rfl hc43)
        show Go κ _ T41 51 #[.val (.ref d), .val (.int (Int32.ofNat x')), .val (.int (Int32.ofNat (ρ x))), s3] []
        refine blk (pc' := 52) (Ls' := #[.val (.ref d), .val (.int (Int32.ofNat x')), .val (.int (Int32.ofNat (ρ x))), s3]) (st' := [(.int (Int32.ofNat (ρ x)))]) [oIloadN w42.ok (dc.g 33 rfl)] rfl ?_
        exact w42.retI (t := .int) rfl (Or.inl rfl) rfl (dc.g 34 rfl) (by decide) (by decide) (fun S hS => ⟨qs', rfl, K1, F1, R1⟩)
      · omega
    | succ g ih =>
      intro k x' qs' hk hx' R1 hR T1 h1 s3 w1 P1 F1 K1 hs3
      have hl1 := R1.1
      obtain ⟨y, hy, hcase⟩ : ∃ y, qs'[x']? = some y ∧ (y = ρ x ∨ (¬ y = ρ x ∧ ∃ k', k' + 1 = k ∧ Rn qs' k' y (ρ x))) := by
        cases k with
        | zero => exact ⟨x', hR.2, Or.inl hR.1⟩
        | succ k' =>
          obtain ⟨y, a1, a2, a3⟩ := hR
          by_cases q : y = ρ x
          · exact ⟨y, a1, Or.inl q⟩
          · exact ⟨y, a1, Or.inr ⟨q, k', rfl, a3⟩⟩
      have hyn : y < n := R1.2.1 y (List.mem_of_getElem? hy)
      show Go κ _ T1 22 #[.val (.ref d), .val (.int (Int32.ofNat x')), .val (.int (Int32.ofNat (ρ x))), s3] []
      refine blk (pc' := 23) (Ls' := #[.val (.ref d), .val (.int (Int32.ofNat x')), .val (.int (Int32.ofNat (ρ x))), s3]) (st' := [(.ref d)]) [oAloadN w1.ok (dc.g 14 rfl)] rfl ?_
      refine w1.get (wd hw 10 rfl) P1 (dc.g 15 rfl) ?_
      intro T44 w45
      show Go κ _ T44 26 #[.val (.ref d), .val (.int (Int32.ofNat x')), .val (.int (Int32.ofNat (ρ x))), s3] [(.ref A)]
      refine blk (pc' := 27) (Ls' := #[.val (.ref d), .val (.int (Int32.ofNat x')), .val (.int (Int32.ofNat (ρ x))), s3]) (st' := [(.int (Int32.ofNat x')), (.ref A)]) [oIloadN w45.ok (dc.g 16 rfl)] rfl ?_
      refine w45.ild F1 (i := x') rfl (ns_at hy) (dc.g 17 rfl) ?_
      show Go κ _ T44 28 #[.val (.ref d), .val (.int (Int32.ofNat x')), .val (.int (Int32.ofNat (ρ x))), s3] [(.int (Int32.ofNat y))]
      refine blk (pc' := 29) (Ls' := #[.val (.ref d), .val (.int (Int32.ofNat x')), .val (.int (Int32.ofNat (ρ x))), s3]) (st' := [(.int (Int32.ofNat (ρ x))), (.int (Int32.ofNat y))]) [oIloadN w45.ok (dc.g 18 rfl)] rfl ?_
      rcases hcase with rfl | ⟨hne, k', hk', hR'⟩
      · show Go κ _ T44 29 #[.val (.ref d), .val (.int (Int32.ofNat x')), .val (.int (Int32.ofNat (ρ x))), s3] [(.int (Int32.ofNat (ρ x))), (.int (Int32.ofNat (ρ x)))]
        refine cEq (pc' := 51) w45.ok (dc.g 19 rfl) (by decide) (by decide) (fun hc46 => ?_) (fun hc46 => absurd rfl hc46)
        show Go κ _ T44 51 #[.val (.ref d), .val (.int (Int32.ofNat x')), .val (.int (Int32.ofNat (ρ x))), s3] []
        refine blk (pc' := 52) (Ls' := #[.val (.ref d), .val (.int (Int32.ofNat x')), .val (.int (Int32.ofNat (ρ x))), s3]) (st' := [(.int (Int32.ofNat (ρ x)))]) [oIloadN w45.ok (dc.g 33 rfl)] rfl ?_
        exact w45.retI (t := .int) rfl (Or.inl rfl) rfl (dc.g 34 rfl) (by decide) (by decide) (fun S hS => ⟨qs', rfl, K1, F1, R1⟩)
      · show Go κ _ T44 29 #[.val (.ref d), .val (.int (Int32.ofNat x')), .val (.int (Int32.ofNat (ρ x))), s3] [(.int (Int32.ofNat (ρ x))), (.int (Int32.ofNat y))]
        refine cEq (pc' := 51) w45.ok (dc.g 19 rfl) (by decide) (by decide) (fun hc47 => absurd hc47 (fun q => hne ((ofNat_inj (by omega) (by omega)).mp q))) (fun hc47 => ?_)
        show Go κ _ T44 32 #[.val (.ref d), .val (.int (Int32.ofNat x')), .val (.int (Int32.ofNat (ρ x))), s3] []
        refine blk (pc' := 33) (Ls' := #[.val (.ref d), .val (.int (Int32.ofNat x')), .val (.int (Int32.ofNat (ρ x))), s3]) (st' := [(.ref d)]) [oAloadN w45.ok (dc.g 20 rfl)] rfl ?_
        refine w45.get (wd hw 10 rfl) P1 (dc.g 21 rfl) ?_
        intro T48 w49
        show Go κ _ T48 36 #[.val (.ref d), .val (.int (Int32.ofNat x')), .val (.int (Int32.ofNat (ρ x))), s3] [(.ref A)]
        refine blk (pc' := 37) (Ls' := #[.val (.ref d), .val (.int (Int32.ofNat x')), .val (.int (Int32.ofNat (ρ x))), s3]) (st' := [(.int (Int32.ofNat x')), (.ref A)]) [oIloadN w49.ok (dc.g 22 rfl)] rfl ?_
        refine w49.ild F1 (i := x') rfl (ns_at hy) (dc.g 23 rfl) ?_
        show Go κ _ T48 38 #[.val (.ref d), .val (.int (Int32.ofNat x')), .val (.int (Int32.ofNat (ρ x))), s3] [(.int (Int32.ofNat y))]
        refine istoreNG w49.ok (dc.g 24 rfl) rfl hs3 ?_
        show Go κ _ T48 39 #[.val (.ref d), .val (.int (Int32.ofNat x')), .val (.int (Int32.ofNat (ρ x))), .val (.int (Int32.ofNat y))] []
        refine blk (pc' := 40) (Ls' := #[.val (.ref d), .val (.int (Int32.ofNat x')), .val (.int (Int32.ofNat (ρ x))), .val (.int (Int32.ofNat y))]) (st' := [(.ref d)]) [oAloadN w49.ok (dc.g 25 rfl)] rfl ?_
        refine w49.get (wd hw 10 rfl) P1 (dc.g 26 rfl) ?_
        intro T50 w51
        show Go κ _ T50 43 #[.val (.ref d), .val (.int (Int32.ofNat x')), .val (.int (Int32.ofNat (ρ x))), .val (.int (Int32.ofNat y))] [(.ref A)]
        refine blk (pc' := 45) (Ls' := #[.val (.ref d), .val (.int (Int32.ofNat x')), .val (.int (Int32.ofNat (ρ x))), .val (.int (Int32.ofNat y))]) (st' := [(.int (Int32.ofNat (ρ x))), (.int (Int32.ofNat x')), (.ref A)]) [oIloadN w51.ok (dc.g 27 rfl), oIloadN w51.ok (dc.g 28 rfl)] rfl ?_
        refine w51.ist F1 (i := x') rfl (by simp; omega) hA0 (dc.g 29 rfl) ?_
        intro T52 h54 w53 W55 F56
        show Go κ _ T52 46 #[.val (.ref d), .val (.int (Int32.ofNat x')), .val (.int (Int32.ofNat (ρ x))), .val (.int (Int32.ofNat y))] []
        obtain ⟨slW55, vvW55, WW55⟩ := W55
        refine blk (pc' := 22) (Ls' := #[.val (.ref d), .val (.int (Int32.ofNat y)), .val (.int (Int32.ofNat (ρ x))), .val (.int (Int32.ofNat y))]) (st' := []) [oIloadN w53.ok (dc.g 30 rfl), oIstoreN w53.ok (dc.g 31 rfl), oGoto w53.ok 22 (dc.g 32 rfl)] rfl ?_
        have ery : ρ y = ρ x := by obtain ⟨j, hj⟩ := R1.2.2 y hyn; exact Rn.fn hj hR'
        have erx : ρ x' = ρ x := by obtain ⟨j, hj⟩ := R1.2.2 x' hx'; exact Rn.fn hj hR
        have R2 : Rep (qs'.set x' (ρ x)) ρ n := by rw [← erx]; exact R1.comp hx'
        obtain ⟨k2, hk2, hR2⟩ := Rn.comp hR (by omega) hR'
        have e3 : (ns qs').set x' (Int32.ofNat (ρ x)) = ns (qs'.set x' (ρ x)) := by rw [ns, ns, List.map_set]
        rw [e3] at F56
        exact ih k2 y _ (by omega) hyn R2 hR2 _ _ _ w53 (P1.other WW55 (Or.inl (Ne.symm hAd))) F56 (K1.wr WW55 (Or.inl (List.mem_of_getElem? (i := 0) rfl))) (One.val rfl)
  have key1 : ∀ (k z : Nat), z < n → Rn qs k z (ρ x) → ∀ (T1 : State), W κ l ({ frames := 0, cells := 0, slots := 0, locals := 0 } : Room) Z [] "com/example/isomark/isomark/DisjointSets" "root" 4 (some .int) vm T1 h 0 0 → Go κ (GQ κ Z [] ({ frames := 0, cells := 0, slots := 0, locals := 0 } : Room) (fun v h' S => ∃ qs', v = some (.int (Int32.ofNat (ρ x))) ∧ Keep h h' [A] ∧ Ary Z h' A .int (ns qs') ∧ Rep qs' ρ n)) T1 2 #[.val (.ref d), .val (.int (Int32.ofNat x)), .val (.int (Int32.ofNat z)), .unset] [] := by
    intro k
    induction k with
    | zero =>
      intro z hz hR T1 w1
      obtain ⟨rfl, hR⟩ := hR
      show Go κ _ T1 2 #[.val (.ref d), .val (.int (Int32.ofNat x)), .val (.int (Int32.ofNat (ρ x))), .unset] []
      refine blk (pc' := 3) (Ls' := #[.val (.ref d), .val (.int (Int32.ofNat x)), .val (.int (Int32.ofNat (ρ x))), .unset]) (st' := [(.ref d)]) [oAloadN w1.ok (dc.g 2 rfl)] rfl ?_
      refine w1.get (wd hw 10 rfl) FP (dc.g 3 rfl) ?_
      intro T57 w58
      show Go κ _ T57 6 #[.val (.ref d), .val (.int (Int32.ofNat x)), .val (.int (Int32.ofNat (ρ x))), .unset] [(.ref A)]
      refine blk (pc' := 7) (Ls' := #[.val (.ref d), .val (.int (Int32.ofNat x)), .val (.int (Int32.ofNat (ρ x))), .unset]) (st' := [(.int (Int32.ofNat (ρ x))), (.ref A)]) [oIloadN w58.ok (dc.g 4 rfl)] rfl ?_
      refine w58.ild FA (i := (ρ x)) rfl (ns_at hR) (dc.g 5 rfl) ?_
      show Go κ _ T57 8 #[.val (.ref d), .val (.int (Int32.ofNat x)), .val (.int (Int32.ofNat (ρ x))), .unset] [(.int (Int32.ofNat (ρ x)))]
      refine blk (pc' := 9) (Ls' := #[.val (.ref d), .val (.int (Int32.ofNat x)), .val (.int (Int32.ofNat (ρ x))), .unset]) (st' := [(.int (Int32.ofNat (ρ x))), (.int (Int32.ofNat (ρ x)))]) [oIloadN w58.ok (dc.g 6 rfl)] rfl ?_
      refine cEq (pc' := 22) w58.ok (dc.g 7 rfl) (by decide) (by decide) (fun hc59 => ?_) (fun hc59 => absurd rfl hc59)
      show Go κ _ T57 22 #[.val (.ref d), .val (.int (Int32.ofNat x)), .val (.int (Int32.ofNat (ρ x))), .unset] []
      obtain ⟨k0, hk0⟩ := RP.2.2 x hx
      exact key2 k0 k0 x qs (Nat.le_refl _) hx RP hk0 _ _ _ w58 FP FA (Keep.refl _ _) One.u
    | succ k ih =>
      intro z hz hR T1 w1
      obtain ⟨y, h1, h2, h3⟩ := hR
      have hyn : y < n := RP.2.1 y (List.mem_of_getElem? h1)
      show Go κ _ T1 2 #[.val (.ref d), .val (.int (Int32.ofNat x)), .val (.int (Int32.ofNat z)), .unset] []
      refine blk (pc' := 3) (Ls' := #[.val (.ref d), .val (.int (Int32.ofNat x)), .val (.int (Int32.ofNat z)), .unset]) (st' := [(.ref d)]) [oAloadN w1.ok (dc.g 2 rfl)] rfl ?_
      refine w1.get (wd hw 10 rfl) FP (dc.g 3 rfl) ?_
      intro T60 w61
      show Go κ _ T60 6 #[.val (.ref d), .val (.int (Int32.ofNat x)), .val (.int (Int32.ofNat z)), .unset] [(.ref A)]
      refine blk (pc' := 7) (Ls' := #[.val (.ref d), .val (.int (Int32.ofNat x)), .val (.int (Int32.ofNat z)), .unset]) (st' := [(.int (Int32.ofNat z)), (.ref A)]) [oIloadN w61.ok (dc.g 4 rfl)] rfl ?_
      refine w61.ild FA (i := z) rfl (ns_at h1) (dc.g 5 rfl) ?_
      show Go κ _ T60 8 #[.val (.ref d), .val (.int (Int32.ofNat x)), .val (.int (Int32.ofNat z)), .unset] [(.int (Int32.ofNat y))]
      refine blk (pc' := 9) (Ls' := #[.val (.ref d), .val (.int (Int32.ofNat x)), .val (.int (Int32.ofNat z)), .unset]) (st' := [(.int (Int32.ofNat z)), (.int (Int32.ofNat y))]) [oIloadN w61.ok (dc.g 6 rfl)] rfl ?_
      refine cEq (pc' := 22) w61.ok (dc.g 7 rfl) (by decide) (by decide) (fun hc62 => absurd hc62 (fun q => h2 ((ofNat_inj (by omega) (by omega)).mp q))) (fun hc62 => ?_)
      show Go κ _ T60 12 #[.val (.ref d), .val (.int (Int32.ofNat x)), .val (.int (Int32.ofNat z)), .unset] []
      refine blk (pc' := 13) (Ls' := #[.val (.ref d), .val (.int (Int32.ofNat x)), .val (.int (Int32.ofNat z)), .unset]) (st' := [(.ref d)]) [oAloadN w61.ok (dc.g 8 rfl)] rfl ?_
      refine w61.get (wd hw 10 rfl) FP (dc.g 9 rfl) ?_
      intro T63 w64
      show Go κ _ T63 16 #[.val (.ref d), .val (.int (Int32.ofNat x)), .val (.int (Int32.ofNat z)), .unset] [(.ref A)]
      refine blk (pc' := 17) (Ls' := #[.val (.ref d), .val (.int (Int32.ofNat x)), .val (.int (Int32.ofNat z)), .unset]) (st' := [(.int (Int32.ofNat z)), (.ref A)]) [oIloadN w64.ok (dc.g 10 rfl)] rfl ?_
      refine w64.ild FA (i := z) rfl (ns_at h1) (dc.g 11 rfl) ?_
      show Go κ _ T63 18 #[.val (.ref d), .val (.int (Int32.ofNat x)), .val (.int (Int32.ofNat z)), .unset] [(.int (Int32.ofNat y))]
      refine blk (pc' := 2) (Ls' := #[.val (.ref d), .val (.int (Int32.ofNat x)), .val (.int (Int32.ofNat y)), .unset]) (st' := []) [oIstoreN w64.ok (dc.g 12 rfl), oGoto w64.ok 2 (dc.g 13 rfl)] rfl ?_
      exact ih y hyn h3 _ w64
  refine blk (pc' := 2) (Ls' := #[.val (.ref d), .val (.int (Int32.ofNat x)), .val (.int (Int32.ofNat x)), .unset]) (st' := []) [oIloadN w.ok (dc.g 0 rfl), oIstoreN w.ok (dc.g 1 rfl)] rfl ?_
  obtain ⟨k0, hk0⟩ := RP.2.2 x hx
  exact key1 k0 x hx hk0 _ w
def D_join : List (Nat × Instr × Nat) := [(0, .aload_n 0, 1), (1, .getfield 7, 3), (4, .aload_n 0, 1), (5, .iload_n 1, 1), (6, .invokevirtual 23, 3), (9, .aload_n 0, 1), (10, .iload_n 2, 1), (11, .invokevirtual 23, 3), (14, .iastore, 1), (15, .return_, 1)]
theorem hD_join : ∀ q ∈ D_join, decode prog_32_method_3_code q.1 = .ok q.2 := by decide +kernel
set_option maxRecDepth 65536 in
set_option maxHeartbeats 4000000 in
theorem c_join (l : Launch) (Z : State) (a0 : Array Value) (hw : ∀ d ∈ tables_1, d.before a0 Z = true) (hEL : EW Z a0 []) {d A : Addr} {qs : List Nat} {ρ : Nat → Nat} {n i j : Nat} {h : Heap} (X : Exa Z h d "com/example/isomark/isomark/DisjointSets") (FP : Fld Z h d "com/example/isomark/isomark/DisjointSets" "parent" "[I" (.ref A)) (FA : Ary Z h A .int (ns qs)) (RP : Rep qs ρ n) (hn : n ≤ 5) (hi : i < n) (hj : j < n) (hA0 : Z.heap.size ≤ A) : Ctr l Z [] (⟨"com/example/isomark/isomark/DisjointSets", "join", "(II)V"⟩ : MethodName) prog_32_method_3_code 3 none [] ({ frames := 1, cells := 0, slots := 0, locals := 20 } : Room) [] #[(.ref d), (.int (Int32.ofNat i)), (.int (Int32.ofNat j))] h (fun v h' S => v = none ∧ ∃ qs', Keep h h' [A] ∧ Ary Z h' A .int (ns qs') ∧ Rep qs' (fun x => if ρ x = ρ i then ρ j else ρ x) n) := by
  refine enter (a0 := a0) (by first | (simp [plainName, overriddenIn]; done) | decide +kernel) hEL (Ls := #[.val (.ref d), .val (.int (Int32.ofNat i)), .val (.int (Int32.ofNat j))]) (fun m => by first | (simp [entryFrame, mkF, argsToLocals, Value.category]; done) | rfl) ?_
  intro κ vm T hby hs w Sf
  have dc := Dec.of hby hD_join
  show Go κ (GQ κ Z [] ({ frames := 1, cells := 0, slots := 0, locals := 20 } : Room) (fun v h' S => v = none ∧ ∃ qs', Keep h h' [A] ∧ Ary Z h' A .int (ns qs') ∧ Rep qs' (fun x => if ρ x = ρ i then ρ j else ρ x) n)) T 0 #[.val (.ref d), .val (.int (Int32.ofNat i)), .val (.int (Int32.ofNat j))] []
  have hAd : A ≠ d := FA.ne_exa X (wd hw 1 rfl)
  refine blk (pc' := 1) (Ls' := #[.val (.ref d), .val (.int (Int32.ofNat i)), .val (.int (Int32.ofNat j))]) (st' := [(.ref d)]) [oAloadN w.ok (dc.g 0 rfl)] rfl ?_
  refine w.get (wd hw 10 rfl) FP (dc.g 1 rfl) ?_
  intro T65 w66
  show Go κ _ T65 4 #[.val (.ref d), .val (.int (Int32.ofNat i)), .val (.int (Int32.ofNat j))] [(.ref A)]
  refine blk (pc' := 6) (Ls' := #[.val (.ref d), .val (.int (Int32.ofNat i)), .val (.int (Int32.ofNat j))]) (st' := [(.int (Int32.ofNat i)), (.ref d), (.ref A)]) [oAloadN w66.ok (dc.g 2 rfl), oIloadN w66.ok (dc.g 3 rfl)] rfl ?_
  refine w66.callV (wd hw 33 rfl) (wd hw 34 rfl) (notFace (wd hw 36 rfl)) (wd hw 36 rfl) (wd hw 35 rfl) (by decide) (a := d) X (argsL := [(.int (Int32.ofNat i))]) (Wd := 1) (Ctr.pays (len := 3) (Wd := 1) (c_root l Z a0 hw hEL X FP FA RP hn hi hA0) w66 (wd hw 37 rfl) (wd hw 2 rfl) hEL (by decide) (by decide) sfNil) pd1 rfl (st := [(.ref A)]) rfl rfl (Nat.le_of_eq rfl) (dc.g 4 rfl) (by decide) (by decide) ?_
  intro vm67 T68 h69 v70 w71 C72 Q73
  obtain ⟨q1, rfl, K1, F1, R1⟩ := Q73
  have X1 := X.keep K1
  have P1 := FP.keep K1 (ninS (Ne.symm hAd) nin0)
  show Go κ _ T68 9 #[.val (.ref d), .val (.int (Int32.ofNat i)), .val (.int (Int32.ofNat j))] [(.int (Int32.ofNat (ρ i))), (.ref A)]
  refine blk (pc' := 11) (Ls' := #[.val (.ref d), .val (.int (Int32.ofNat i)), .val (.int (Int32.ofNat j))]) (st' := [(.int (Int32.ofNat j)), (.ref d), (.int (Int32.ofNat (ρ i))), (.ref A)]) [oAloadN w71.ok (dc.g 5 rfl), oIloadN w71.ok (dc.g 6 rfl)] rfl ?_
  refine w71.callV (wd hw 33 rfl) (wd hw 34 rfl) (notFace (wd hw 36 rfl)) (wd hw 36 rfl) (wd hw 35 rfl) (by decide) (a := d) X1 (argsL := [(.int (Int32.ofNat j))]) (Wd := 2) (Ctr.pays (len := 3) (Wd := 2) (c_root l Z a0 hw hEL X1 P1 F1 R1 hn hj hA0) w71 (wd hw 37 rfl) (wd hw 2 rfl) hEL (by decide) (by decide) sfNil) pd1 rfl (st := [(.int (Int32.ofNat (ρ i))), (.ref A)]) rfl rfl (Nat.le_of_eq rfl) (dc.g 7 rfl) (by decide) (by decide) ?_
  intro vm74 T75 h76 v77 w78 C79 Q80
  obtain ⟨q2, rfl, K2, F2, R2⟩ := Q80
  show Go κ _ T75 14 #[.val (.ref d), .val (.int (Int32.ofNat i)), .val (.int (Int32.ofNat j))] [(.int (Int32.ofNat (ρ j))), (.int (Int32.ofNat (ρ i))), (.ref A)]
  have hl2 := R2.1
  have hri := R2.lt hi
  refine w78.ist F2 (i := (ρ i)) rfl (by simp; omega) hA0 (dc.g 8 rfl) ?_
  intro T81 h83 w82 W84 F85
  show Go κ _ T81 15 #[.val (.ref d), .val (.int (Int32.ofNat i)), .val (.int (Int32.ofNat j))] []
  obtain ⟨slW84, vvW84, WW84⟩ := W84
  have e3 : (ns q2).set (ρ i) (Int32.ofNat (ρ j)) = ns (q2.set (ρ i) (ρ j)) := by rw [ns, ns, List.map_set]
  rw [e3] at F85
  exact w82.retV (dc.g 9 rfl) (by decide) (by decide) (fun S hS => ⟨rfl, _, (K1.trans K2 (allS (Or.inl (List.mem_of_getElem? (i := 0) rfl)) all0)).wr WW84 (Or.inl (List.mem_of_getElem? (i := 0) rfl)), F85, R2.join hi hj⟩)
def D_rng : List (Nat × Instr × Nat) := [(0, .iload_n 0, 1), (1, .ifCond .lt 12, 3), (4, .iload_n 0, 1), (5, .iconst 4, 1), (6, .if_icmp .ge 7, 3), (9, .iconst 1, 1), (10, .goto 4, 3), (13, .iconst 0, 1), (14, .ireturn, 1)]
theorem hD_rng : ∀ q ∈ D_rng, decode method_2_code q.1 = .ok q.2 := by decide +kernel
set_option maxRecDepth 65536 in
set_option maxHeartbeats 4000000 in
theorem c_rng (l : Launch) (Z : State) (a0 : Array Value) (hw : ∀ d ∈ tables_1, d.before a0 Z = true) (hEL : EW Z a0 []) {v : Nat} {h : Heap} (hv : v < 4) : Ctr l Z [] (⟨"com/example/isomark/isomark/DisjointSetsJoinPinLaw", "inRange", "(I)Z"⟩ : MethodName) method_2_code 1 (some .boolean) [] ({ frames := 0, cells := 0, slots := 0, locals := 0 } : Room) [] #[(.int (Int32.ofNat v))] h (fun v h' S => h = h' ∧ v = some (.int 1)) := by
  refine enter (a0 := a0) (by first | (simp [plainName, overriddenIn]; done) | decide +kernel) hEL (Ls := #[.val (.int (Int32.ofNat v))]) (fun m => by first | (simp [entryFrame, mkF, argsToLocals, Value.category]; done) | rfl) ?_
  intro κ vm T hby hs w Sf
  have dc := Dec.of hby hD_rng
  show Go κ (GQ κ Z [] ({ frames := 0, cells := 0, slots := 0, locals := 0 } : Room) (fun v h' S => h = h' ∧ v = some (.int 1))) T 0 #[.val (.int (Int32.ofNat v))] []
  refine blk (pc' := 1) (Ls' := #[.val (.int (Int32.ofNat v))]) (st' := [(.int (Int32.ofNat v))]) [oIloadN w.ok (dc.g 0 rfl)] rfl ?_
  refine zLt (pc' := 13) w.ok (dc.g 1 rfl) (by decide) (by decide) (fun hc86 => absurd hc86 (nneg_ofNat (by omega))) (fun hc86 => ?_)
  show Go κ _ T 4 #[.val (.int (Int32.ofNat v))] []
  refine blk (pc' := 6) (Ls' := #[.val (.int (Int32.ofNat v))]) (st' := [(.int (4 : Int32)), (.int (Int32.ofNat v))]) [oIloadN w.ok (dc.g 2 rfl), oIconst w.ok (dc.g 3 rfl)] rfl ?_
  refine cGe (pc' := 13) w.ok (dc.g 4 rfl) (by decide) (by decide) (fun hc87 => absurd (by rw [show (4 : Int32) = Int32.ofNat 4 from rfl, ofNat_lt (by omega) (by decide)]; exact hv) hc87) (fun hc87 => ?_)
  show Go κ _ T 9 #[.val (.int (Int32.ofNat v))] []
  refine blk (pc' := 14) (Ls' := #[.val (.int (Int32.ofNat v))]) (st' := [(.int (1 : Int32))]) [oIconst w.ok (dc.g 5 rfl), oGoto w.ok 14 (dc.g 6 rfl)] rfl ?_
  exact w.retI (t := .boolean) rfl (Or.inr (Or.inl rfl)) rfl (dc.g 8 rfl) (by decide) (by decide) (fun S hS => ⟨rfl, rfl⟩)
def D_sp : List (Nat × Instr × Nat) := [(0, .aload_n 0, 1), (1, .iload_n 2, 1), (2, .iaload, 1), (3, .aload_n 0, 1), (4, .iload_n 3, 1), (5, .iaload, 1), (6, .if_icmp .ne 7, 3), (9, .iconst 1, 1), (10, .goto 4, 3), (13, .iconst 0, 1), (14, .aload_n 1, 1), (15, .iload_n 2, 1), (16, .iaload, 1), (17, .aload_n 1, 1), (18, .iload_n 3, 1), (19, .iaload, 1), (20, .if_icmp .ne 7, 3), (23, .iconst 1, 1), (24, .goto 4, 3), (27, .iconst 0, 1), (28, .if_icmp .ne 7, 3), (31, .iconst 1, 1), (32, .goto 4, 3), (35, .iconst 0, 1), (36, .ireturn, 1)]
theorem hD_sp : ∀ q ∈ D_sp, decode method_3_code q.1 = .ok q.2 := by decide +kernel
set_option maxRecDepth 65536 in
set_option maxHeartbeats 4000000 in
theorem c_sp (l : Launch) (Z : State) (a0 : Array Value) (hw : ∀ d ∈ tables_1, d.before a0 Z = true) (hEL : EW Z a0 []) {s c : Addr} {vs : List Int32} {x y : Nat} {p q : Int32} {h : Heap} (Fs : Ary Z h s .int vs) (Fc : Ary Z h c .int vs) (hx : vs[x]? = some p) (hy : vs[y]? = some q) : Ctr l Z [] (⟨"com/example/isomark/isomark/DisjointSetsJoinPinLaw", "samePair", "([I[III)Z"⟩ : MethodName) method_3_code 4 (some .boolean) [] ({ frames := 0, cells := 0, slots := 0, locals := 0 } : Room) [] #[(.ref s), (.ref c), (.int (Int32.ofNat x)), (.int (Int32.ofNat y))] h (fun v h' S => h = h' ∧ v = some (.int 1)) := by
  refine enter (a0 := a0) (by first | (simp [plainName, overriddenIn]; done) | decide +kernel) hEL (Ls := #[.val (.ref s), .val (.ref c), .val (.int (Int32.ofNat x)), .val (.int (Int32.ofNat y))]) (fun m => by first | (simp [entryFrame, mkF, argsToLocals, Value.category]; done) | rfl) ?_
  intro κ vm T hby hs w Sf
  have dc := Dec.of hby hD_sp
  show Go κ (GQ κ Z [] ({ frames := 0, cells := 0, slots := 0, locals := 0 } : Room) (fun v h' S => h = h' ∧ v = some (.int 1))) T 0 #[.val (.ref s), .val (.ref c), .val (.int (Int32.ofNat x)), .val (.int (Int32.ofNat y))] []
  refine blk (pc' := 2) (Ls' := #[.val (.ref s), .val (.ref c), .val (.int (Int32.ofNat x)), .val (.int (Int32.ofNat y))]) (st' := [(.int (Int32.ofNat x)), (.ref s)]) [oAloadN w.ok (dc.g 0 rfl), oIloadN w.ok (dc.g 1 rfl)] rfl ?_
  refine w.ild Fs (i := x) rfl hx (dc.g 2 rfl) ?_
  show Go κ _ T 3 #[.val (.ref s), .val (.ref c), .val (.int (Int32.ofNat x)), .val (.int (Int32.ofNat y))] [(.int p)]
  refine blk (pc' := 5) (Ls' := #[.val (.ref s), .val (.ref c), .val (.int (Int32.ofNat x)), .val (.int (Int32.ofNat y))]) (st' := [(.int (Int32.ofNat y)), (.ref s), (.int p)]) [oAloadN w.ok (dc.g 3 rfl), oIloadN w.ok (dc.g 4 rfl)] rfl ?_
  refine w.ild Fs (i := y) rfl hy (dc.g 5 rfl) ?_
  show Go κ _ T 6 #[.val (.ref s), .val (.ref c), .val (.int (Int32.ofNat x)), .val (.int (Int32.ofNat y))] [(.int q), (.int p)]
  refine cNe (pc' := 13) w.ok (dc.g 6 rfl) (by decide) (by decide) (fun hc88 => ?_) (fun hc88 => ?_)
  · show Go κ _ T 13 #[.val (.ref s), .val (.ref c), .val (.int (Int32.ofNat x)), .val (.int (Int32.ofNat y))] []
    refine blk (pc' := 16) (Ls' := #[.val (.ref s), .val (.ref c), .val (.int (Int32.ofNat x)), .val (.int (Int32.ofNat y))]) (st' := [(.int (Int32.ofNat x)), (.ref c), (.int (0 : Int32))]) [oIconst w.ok (dc.g 9 rfl), oAloadN w.ok (dc.g 10 rfl), oIloadN w.ok (dc.g 11 rfl)] rfl ?_
    refine w.ild Fc (i := x) rfl hx (dc.g 12 rfl) ?_
    show Go κ _ T 17 #[.val (.ref s), .val (.ref c), .val (.int (Int32.ofNat x)), .val (.int (Int32.ofNat y))] [(.int p), (.int (0 : Int32))]
    refine blk (pc' := 19) (Ls' := #[.val (.ref s), .val (.ref c), .val (.int (Int32.ofNat x)), .val (.int (Int32.ofNat y))]) (st' := [(.int (Int32.ofNat y)), (.ref c), (.int p), (.int (0 : Int32))]) [oAloadN w.ok (dc.g 13 rfl), oIloadN w.ok (dc.g 14 rfl)] rfl ?_
    refine w.ild Fc (i := y) rfl hy (dc.g 15 rfl) ?_
    show Go κ _ T 20 #[.val (.ref s), .val (.ref c), .val (.int (Int32.ofNat x)), .val (.int (Int32.ofNat y))] [(.int q), (.int p), (.int (0 : Int32))]
    refine cNe (pc' := 27) w.ok (dc.g 16 rfl) (by decide) (by decide) (fun hc89 => ?_) (fun hc89 => absurd hc89 hc88)
    show Go κ _ T 27 #[.val (.ref s), .val (.ref c), .val (.int (Int32.ofNat x)), .val (.int (Int32.ofNat y))] [(.int (0 : Int32))]
    refine blk (pc' := 28) (Ls' := #[.val (.ref s), .val (.ref c), .val (.int (Int32.ofNat x)), .val (.int (Int32.ofNat y))]) (st' := [(.int (0 : Int32)), (.int (0 : Int32))]) [oIconst w.ok (dc.g 19 rfl)] rfl ?_
    refine cNe (pc' := 35) w.ok (dc.g 20 rfl) (by decide) (by decide) (fun hc90 => absurd rfl hc90) (fun hc90 => ?_)
    show Go κ _ T 31 #[.val (.ref s), .val (.ref c), .val (.int (Int32.ofNat x)), .val (.int (Int32.ofNat y))] []
    refine blk (pc' := 36) (Ls' := #[.val (.ref s), .val (.ref c), .val (.int (Int32.ofNat x)), .val (.int (Int32.ofNat y))]) (st' := [(.int (1 : Int32))]) [oIconst w.ok (dc.g 21 rfl), oGoto w.ok 36 (dc.g 22 rfl)] rfl ?_
    exact w.retI (t := .boolean) rfl (Or.inr (Or.inl rfl)) rfl (dc.g 24 rfl) (by decide) (by decide) (fun S hS => ⟨rfl, rfl⟩)
  · show Go κ _ T 9 #[.val (.ref s), .val (.ref c), .val (.int (Int32.ofNat x)), .val (.int (Int32.ofNat y))] []
    refine blk (pc' := 16) (Ls' := #[.val (.ref s), .val (.ref c), .val (.int (Int32.ofNat x)), .val (.int (Int32.ofNat y))]) (st' := [(.int (Int32.ofNat x)), (.ref c), (.int (1 : Int32))]) [oIconst w.ok (dc.g 7 rfl), oGoto w.ok 14 (dc.g 8 rfl), oAloadN w.ok (dc.g 10 rfl), oIloadN w.ok (dc.g 11 rfl)] rfl ?_
    refine w.ild Fc (i := x) rfl hx (dc.g 12 rfl) ?_
    show Go κ _ T 17 #[.val (.ref s), .val (.ref c), .val (.int (Int32.ofNat x)), .val (.int (Int32.ofNat y))] [(.int p), (.int (1 : Int32))]
    refine blk (pc' := 19) (Ls' := #[.val (.ref s), .val (.ref c), .val (.int (Int32.ofNat x)), .val (.int (Int32.ofNat y))]) (st' := [(.int (Int32.ofNat y)), (.ref c), (.int p), (.int (1 : Int32))]) [oAloadN w.ok (dc.g 13 rfl), oIloadN w.ok (dc.g 14 rfl)] rfl ?_
    refine w.ild Fc (i := y) rfl hy (dc.g 15 rfl) ?_
    show Go κ _ T 20 #[.val (.ref s), .val (.ref c), .val (.int (Int32.ofNat x)), .val (.int (Int32.ofNat y))] [(.int q), (.int p), (.int (1 : Int32))]
    refine cNe (pc' := 27) w.ok (dc.g 16 rfl) (by decide) (by decide) (fun hc91 => absurd hc88 hc91) (fun hc91 => ?_)
    show Go κ _ T 23 #[.val (.ref s), .val (.ref c), .val (.int (Int32.ofNat x)), .val (.int (Int32.ofNat y))] [(.int (1 : Int32))]
    refine blk (pc' := 28) (Ls' := #[.val (.ref s), .val (.ref c), .val (.int (Int32.ofNat x)), .val (.int (Int32.ofNat y))]) (st' := [(.int (1 : Int32)), (.int (1 : Int32))]) [oIconst w.ok (dc.g 17 rfl), oGoto w.ok 28 (dc.g 18 rfl)] rfl ?_
    refine cNe (pc' := 35) w.ok (dc.g 20 rfl) (by decide) (by decide) (fun hc92 => absurd rfl hc92) (fun hc92 => ?_)
    show Go κ _ T 31 #[.val (.ref s), .val (.ref c), .val (.int (Int32.ofNat x)), .val (.int (Int32.ofNat y))] []
    refine blk (pc' := 36) (Ls' := #[.val (.ref s), .val (.ref c), .val (.int (Int32.ofNat x)), .val (.int (Int32.ofNat y))]) (st' := [(.int (1 : Int32))]) [oIconst w.ok (dc.g 21 rfl), oGoto w.ok 36 (dc.g 22 rfl)] rfl ?_
    exact w.retI (t := .boolean) rfl (Or.inr (Or.inl rfl)) rfl (dc.g 24 rfl) (by decide) (by decide) (fun S hS => ⟨rfl, rfl⟩)
def D_law : List (Nat × Instr × Nat) := [(0, .new 7, 3), (3, .dup, 1), (4, .iconst 4, 1), (5, .invokespecial 9, 3), (8, .astore 4, 2), (10, .aload 4, 2), (12, .iload_n 0, 1), (13, .iconst 3, 1), (14, .iand, 1), (15, .iload_n 0, 1), (16, .iconst 2, 1), (17, .iushr, 1), (18, .iconst 3, 1), (19, .iand, 1), (20, .invokevirtual 12, 3), (23, .aload 4, 2), (25, .iload_n 1, 1), (26, .iconst 3, 1), (27, .iand, 1), (28, .iload_n 1, 1), (29, .iconst 2, 1), (30, .iushr, 1), (31, .iconst 3, 1), (32, .iand, 1), (33, .invokevirtual 12, 3), (36, .iload_n 2, 1), (37, .iconst 3, 1), (38, .iand, 1), (39, .istore 5, 2), (41, .iload_n 3, 1), (42, .iconst 3, 1), (43, .iand, 1), (44, .istore 6, 2), (46, .iconst 4, 1), (47, .newarray .int, 2), (49, .astore 7, 2), (51, .aload 7, 2), (53, .iconst 0, 1), (54, .aload 4, 2), (56, .iconst 0, 1), (57, .invokevirtual 16, 3), (60, .iastore, 1), (61, .aload 7, 2), (63, .iconst 1, 1), (64, .aload 4, 2), (66, .iconst 1, 1), (67, .invokevirtual 16, 3), (70, .iastore, 1), (71, .aload 7, 2), (73, .iconst 2, 1), (74, .aload 4, 2), (76, .iconst 2, 1), (77, .invokevirtual 16, 3), (80, .iastore, 1), (81, .aload 7, 2), (83, .iconst 3, 1), (84, .aload 4, 2), (86, .iconst 3, 1), (87, .invokevirtual 16, 3), (90, .iastore, 1), (91, .aload 7, 2), (93, .iload 5, 2), (95, .iaload, 1), (96, .istore 8, 2), (98, .aload 7, 2), (100, .iload 6, 2), (102, .iaload, 1), (103, .istore 9, 2), (105, .iconst 4, 1), (106, .newarray .int, 2), (108, .astore 10, 2), (110, .aload 10, 2), (112, .iconst 0, 1), (113, .aload 7, 2), (115, .iconst 0, 1), (116, .iaload, 1), (117, .iload 8, 2), (119, .if_icmp .ne 8, 3), (122, .iload 9, 2), (124, .goto 7, 3), (127, .aload 7, 2), (129, .iconst 0, 1), (130, .iaload, 1), (131, .iastore, 1), (132, .aload 10, 2), (134, .iconst 1, 1), (135, .aload 7, 2), (137, .iconst 1, 1), (138, .iaload, 1), (139, .iload 8, 2), (141, .if_icmp .ne 8, 3), (144, .iload 9, 2), (146, .goto 7, 3), (149, .aload 7, 2), (151, .iconst 1, 1), (152, .iaload, 1), (153, .iastore, 1), (154, .aload 10, 2), (156, .iconst 2, 1), (157, .aload 7, 2), (159, .iconst 2, 1), (160, .iaload, 1), (161, .iload 8, 2), (163, .if_icmp .ne 8, 3), (166, .iload 9, 2), (168, .goto 7, 3), (171, .aload 7, 2), (173, .iconst 2, 1), (174, .iaload, 1), (175, .iastore, 1), (176, .aload 10, 2), (178, .iconst 3, 1), (179, .aload 7, 2), (181, .iconst 3, 1), (182, .iaload, 1), (183, .iload 8, 2), (185, .if_icmp .ne 8, 3), (188, .iload 9, 2), (190, .goto 7, 3), (193, .aload 7, 2), (195, .iconst 3, 1), (196, .iaload, 1), (197, .iastore, 1), (198, .aload 4, 2), (200, .iload 5, 2), (202, .iload 6, 2), (204, .invokevirtual 12, 3), (207, .iconst 4, 1), (208, .newarray .int, 2), (210, .astore 11, 2), (212, .aload 11, 2), (214, .iconst 0, 1), (215, .aload 4, 2), (217, .iconst 0, 1), (218, .invokevirtual 16, 3), (221, .iastore, 1), (222, .aload 11, 2), (224, .iconst 1, 1), (225, .aload 4, 2), (227, .iconst 1, 1), (228, .invokevirtual 16, 3), (231, .iastore, 1), (232, .aload 11, 2), (234, .iconst 2, 1), (235, .aload 4, 2), (237, .iconst 2, 1), (238, .invokevirtual 16, 3), (241, .iastore, 1), (242, .aload 11, 2), (244, .iconst 3, 1), (245, .aload 4, 2), (247, .iconst 3, 1), (248, .invokevirtual 16, 3), (251, .iastore, 1), (252, .aload 11, 2), (254, .iconst 0, 1), (255, .iaload, 1), (256, .invokestatic 20, 3), (259, .ifCond .eq 33, 3), (262, .aload 11, 2), (264, .iconst 1, 1), (265, .iaload, 1), (266, .invokestatic 20, 3), (269, .ifCond .eq 23, 3), (272, .aload 11, 2), (274, .iconst 2, 1), (275, .iaload, 1), (276, .invokestatic 20, 3), (279, .ifCond .eq 13, 3), (282, .aload 11, 2), (284, .iconst 3, 1), (285, .iaload, 1), (286, .invokestatic 20, 3), (289, .ifCond .ne 5, 3), (292, .iconst 0, 1), (293, .ireturn, 1), (294, .aload 11, 2), (296, .aload 10, 2), (298, .iconst 0, 1), (299, .iconst 1, 1), (300, .invokestatic 26, 3), (303, .ifCond .eq 67, 3), (306, .aload 11, 2), (308, .aload 10, 2), (310, .iconst 0, 1), (311, .iconst 2, 1), (312, .invokestatic 26, 3), (315, .ifCond .eq 55, 3), (318, .aload 11, 2), (320, .aload 10, 2), (322, .iconst 0, 1), (323, .iconst 3, 1), (324, .invokestatic 26, 3), (327, .ifCond .eq 43, 3), (330, .aload 11, 2), (332, .aload 10, 2), (334, .iconst 1, 1), (335, .iconst 2, 1), (336, .invokestatic 26, 3), (339, .ifCond .eq 31, 3), (342, .aload 11, 2), (344, .aload 10, 2), (346, .iconst 1, 1), (347, .iconst 3, 1), (348, .invokestatic 26, 3), (351, .ifCond .eq 19, 3), (354, .aload 11, 2), (356, .aload 10, 2), (358, .iconst 2, 1), (359, .iconst 3, 1), (360, .invokestatic 26, 3), (363, .ifCond .eq 7, 3), (366, .iconst 1, 1), (367, .goto 4, 3), (370, .iconst 0, 1), (371, .istore 12, 2), (373, .aload 10, 2), (375, .aload 11, 2), (377, .iconst 0, 1), (378, .iaload, 1), (379, .iaload, 1), (380, .aload 10, 2), (382, .iconst 0, 1), (383, .iaload, 1), (384, .if_icmp .ne 49, 3), (387, .aload 10, 2), (389, .aload 11, 2), (391, .iconst 1, 1), (392, .iaload, 1), (393, .iaload, 1), (394, .aload 10, 2), (396, .iconst 1, 1), (397, .iaload, 1), (398, .if_icmp .ne 35, 3), (401, .aload 10, 2), (403, .aload 11, 2), (405, .iconst 2, 1), (406, .iaload, 1), (407, .iaload, 1), (408, .aload 10, 2), (410, .iconst 2, 1), (411, .iaload, 1), (412, .if_icmp .ne 21, 3), (415, .aload 10, 2), (417, .aload 11, 2), (419, .iconst 3, 1), (420, .iaload, 1), (421, .iaload, 1), (422, .aload 10, 2), (424, .iconst 3, 1), (425, .iaload, 1), (426, .if_icmp .ne 7, 3), (429, .iconst 1, 1), (430, .goto 4, 3), (433, .iconst 0, 1), (434, .istore 13, 2), (436, .iload 12, 2), (438, .ifCond .eq 12, 3), (441, .iload 13, 2), (443, .ifCond .eq 7, 3), (446, .iconst 1, 1), (447, .goto 4, 3), (450, .iconst 0, 1), (451, .ireturn, 1)]
theorem hD_law : ∀ q ∈ D_law, decode code q.1 = .ok q.2 := by decide +kernel
set_option maxRecDepth 65536 in
set_option maxHeartbeats 4000000 in
theorem c_law (l : Launch) (Z : State) (a0 : Array Value) (hw : ∀ d ∈ tables_1, d.before a0 Z = true) (hEL : EW Z a0 []) {p0 p1 p2 p3 : Int32} (h : Heap) (oz : Ext Z.heap h) (ws : List Jvm.Cond) : Ctr l Z [] x code maxLocals ret ws room_1 [] #[(.int p0), (.int p1), (.int p2), (.int p3)] h (fun v h' S => v = some (.int 1)) := by
  refine enter (a0 := a0) (by first | (simp [plainName, overriddenIn]; done) | decide +kernel) hEL (Ls := #[.val (.int p0), .val (.int p1), .val (.int p2), .val (.int p3), .unset, .unset, .unset, .unset, .unset, .unset, .unset, .unset, .unset, .unset]) (fun m => by first | (simp [entryFrame, mkF, argsToLocals, Value.category, maxLocals]; done) | rfl) ?_
  intro κ vm T hby hs w Sf
  have dc := Dec.of hby hD_law
  show Go κ (GQ κ Z [] room_1 (fun v h' S => v = some (.int 1))) T 0 #[.val (.int p0), .val (.int p1), .val (.int p2), .val (.int p3), .unset, .unset, .unset, .unset, .unset, .unset, .unset, .unset, .unset, .unset] []
  have ozs : Ext Z.heap κ.s.heap := by rw [hs]; exact oz
  refine w.new (wd hw 0 rfl) (wd hw 1 rfl) (wd hw 2 rfl) (dc.g 0 rfl) (by decide) (by decide) ?_
  intro T93 h95 x96 w94 g97 E98 X99 D100 S101
  show Go κ _ T93 3 #[.val (.int p0), .val (.int p1), .val (.int p2), .val (.int p3), .unset, .unset, .unset, .unset, .unset, .unset, .unset, .unset, .unset, .unset] [(.ref x96)]
  refine blk (pc' := 5) (Ls' := #[.val (.int p0), .val (.int p1), .val (.int p2), .val (.int p3), .unset, .unset, .unset, .unset, .unset, .unset, .unset, .unset, .unset, .unset]) (st' := [(.int (4 : Int32)), (.ref x96), (.ref x96)]) [oDup w94.ok (dc.g 1 rfl), oIconst w94.ok (dc.g 2 rfl)] rfl ?_
  refine w94.callI rfl (wd hw 3 rfl) (wd hw 4 rfl) (wd hw 5 rfl) (by decide) (a := x96) (argsL := [(.int (4 : Int32))]) (Wd := 1) (Ctr.pays (len := 3) (Wd := 1) (c_init l Z a0 hw hEL (w94.old ozs) X99 (D100 (Or.inr (wd hw 11 rfl)) (ty := .array .int) (by decide)) (by rw [g97]; exact oz.1)) w94 (wd hw 5 rfl) (wd hw 2 rfl) hEL (by decide) (by decide) sfNil) pd3 rfl (st := [(.ref x96)]) rfl rfl (Nat.le_of_eq rfl) (dc.g 3 rfl) (by decide) (by decide) ?_
  intro vm102 T103 h104 v105 w106 C107 Q108
  obtain ⟨rfl, K0, X0, A, FP0, hgA, FA0⟩ := Q108
  have hA0 : Z.heap.size ≤ A := Nat.le_trans (Nat.le_trans oz.1 E98.1) hgA
  have hdA : x96 ≠ A := Ne.symm (FA0.ne_exa X0 (wd hw 1 rfl))
  have R0 : Rep (List.range 4) (fun x => x) 4 := Rep.id
  show Go κ _ T103 8 #[.val (.int p0), .val (.int p1), .val (.int p2), .val (.int p3), .unset, .unset, .unset, .unset, .unset, .unset, .unset, .unset, .unset, .unset] [(.ref x96)]
  refine blk (pc' := 20) (Ls' := #[.val (.int p0), .val (.int p1), .val (.int p2), .val (.int p3), .val (.ref x96), .unset, .unset, .unset, .unset, .unset, .unset, .unset, .unset, .unset]) (st' := [(.int (((p0).toUInt32 >>> ((2 : Int32) &&& 31).toUInt32).toInt32 &&& (3 : Int32))), (.int (p0 &&& (3 : Int32))), (.ref x96)]) [oAstore w106.ok (dc.g 4 rfl), oAload w106.ok (dc.g 5 rfl), oIloadN w106.ok (dc.g 6 rfl), oIconst w106.ok (dc.g 7 rfl), oIand w106.ok (dc.g 8 rfl), oIloadN w106.ok (dc.g 9 rfl), oIconst w106.ok (dc.g 10 rfl), oIushr w106.ok (dc.g 11 rfl), oIconst w106.ok (dc.g 12 rfl), oIand w106.ok (dc.g 13 rfl)] rfl ?_
  obtain ⟨j1, hj1, ej1⟩ := andNat ((p0).toUInt32 >>> ((2 : Int32) &&& 31).toUInt32).toInt32 3 3 (by decide)
  rw [ej1]
  show Go κ _ T103 20 #[.val (.int p0), .val (.int p1), .val (.int p2), .val (.int p3), .val (.ref x96), .unset, .unset, .unset, .unset, .unset, .unset, .unset, .unset, .unset] [(.int (Int32.ofNat j1)), (.int (p0 &&& (3 : Int32))), (.ref x96)]
  obtain ⟨i1, hi1, ei1⟩ := andNat p0 3 3 (by decide)
  rw [ei1]
  show Go κ _ T103 20 #[.val (.int p0), .val (.int p1), .val (.int p2), .val (.int p3), .val (.ref x96), .unset, .unset, .unset, .unset, .unset, .unset, .unset, .unset, .unset] [(.int (Int32.ofNat j1)), (.int (Int32.ofNat i1)), (.ref x96)]
  refine w106.callV (wd hw 28 rfl) (wd hw 29 rfl) (notFace (wd hw 31 rfl)) (wd hw 31 rfl) (wd hw 30 rfl) (by decide) (a := x96) X0 (argsL := [(.int (Int32.ofNat i1)), (.int (Int32.ofNat j1))]) (Wd := 0) (Ctr.pays (len := 3) (Wd := 0) (c_join l Z a0 hw hEL (i := i1) (j := j1) X0 FP0 FA0 R0 (by decide) (by omega) (by omega) hA0) w106 (wd hw 32 rfl) (wd hw 2 rfl) hEL (by decide) (by decide) sfNil) pd4 rfl (st := []) rfl rfl (Nat.le_of_eq rfl) (dc.g 14 rfl) (by decide) (by decide) ?_
  intro vm109 T110 h111 v112 w113 C114 Q115
  obtain ⟨rfl, qs116, K117, F118, R119⟩ := Q115
  show Go κ _ T110 23 #[.val (.int p0), .val (.int p1), .val (.int p2), .val (.int p3), .val (.ref x96), .unset, .unset, .unset, .unset, .unset, .unset, .unset, .unset, .unset] []
  have Y120 := (X0).keep K117
  have Y121 := (FP0).keep K117 (ninS hdA nin0)
  obtain ⟨ρ1, S1⟩ : ∃ ρ, Rep qs116 ρ 4 := ⟨_, R119⟩
  refine blk (pc' := 33) (Ls' := #[.val (.int p0), .val (.int p1), .val (.int p2), .val (.int p3), .val (.ref x96), .unset, .unset, .unset, .unset, .unset, .unset, .unset, .unset, .unset]) (st' := [(.int (((p1).toUInt32 >>> ((2 : Int32) &&& 31).toUInt32).toInt32 &&& (3 : Int32))), (.int (p1 &&& (3 : Int32))), (.ref x96)]) [oAload w113.ok (dc.g 15 rfl), oIloadN w113.ok (dc.g 16 rfl), oIconst w113.ok (dc.g 17 rfl), oIand w113.ok (dc.g 18 rfl), oIloadN w113.ok (dc.g 19 rfl), oIconst w113.ok (dc.g 20 rfl), oIushr w113.ok (dc.g 21 rfl), oIconst w113.ok (dc.g 22 rfl), oIand w113.ok (dc.g 23 rfl)] rfl ?_
  obtain ⟨j2, hj2, ej2⟩ := andNat ((p1).toUInt32 >>> ((2 : Int32) &&& 31).toUInt32).toInt32 3 3 (by decide)
  rw [ej2]
  show Go κ _ T110 33 #[.val (.int p0), .val (.int p1), .val (.int p2), .val (.int p3), .val (.ref x96), .unset, .unset, .unset, .unset, .unset, .unset, .unset, .unset, .unset] [(.int (Int32.ofNat j2)), (.int (p1 &&& (3 : Int32))), (.ref x96)]
  obtain ⟨i2, hi2, ei2⟩ := andNat p1 3 3 (by decide)
  rw [ei2]
  show Go κ _ T110 33 #[.val (.int p0), .val (.int p1), .val (.int p2), .val (.int p3), .val (.ref x96), .unset, .unset, .unset, .unset, .unset, .unset, .unset, .unset, .unset] [(.int (Int32.ofNat j2)), (.int (Int32.ofNat i2)), (.ref x96)]
  refine w113.callV (wd hw 28 rfl) (wd hw 29 rfl) (notFace (wd hw 31 rfl)) (wd hw 31 rfl) (wd hw 30 rfl) (by decide) (a := x96) Y120 (argsL := [(.int (Int32.ofNat i2)), (.int (Int32.ofNat j2))]) (Wd := 0) (Ctr.pays (len := 3) (Wd := 0) (c_join l Z a0 hw hEL (i := i2) (j := j2) Y120 Y121 F118 S1 (by decide) (by omega) (by omega) hA0) w113 (wd hw 32 rfl) (wd hw 2 rfl) hEL (by decide) (by decide) sfNil) pd4 rfl (st := []) rfl rfl (Nat.le_of_eq rfl) (dc.g 24 rfl) (by decide) (by decide) ?_
  intro vm122 T123 h124 v125 w126 C127 Q128
  obtain ⟨rfl, qs129, K130, F131, R132⟩ := Q128
  show Go κ _ T123 36 #[.val (.int p0), .val (.int p1), .val (.int p2), .val (.int p3), .val (.ref x96), .unset, .unset, .unset, .unset, .unset, .unset, .unset, .unset, .unset] []
  have Y133 := (Y120).keep K130
  have Y134 := (Y121).keep K130 (ninS hdA nin0)
  obtain ⟨ρ2, S2⟩ : ∃ ρ, Rep qs129 ρ 4 := ⟨_, R132⟩
  refine blk (pc' := 46) (Ls' := #[.val (.int p0), .val (.int p1), .val (.int p2), .val (.int p3), .val (.ref x96), .val (.int (p2 &&& (3 : Int32))), .val (.int (p3 &&& (3 : Int32))), .unset, .unset, .unset, .unset, .unset, .unset, .unset]) (st' := []) [oIloadN w126.ok (dc.g 25 rfl), oIconst w126.ok (dc.g 26 rfl), oIand w126.ok (dc.g 27 rfl), oIstore w126.ok (dc.g 28 rfl), oIloadN w126.ok (dc.g 29 rfl), oIconst w126.ok (dc.g 30 rfl), oIand w126.ok (dc.g 31 rfl), oIstore w126.ok (dc.g 32 rfl)] rfl ?_
  obtain ⟨a, ha, ea⟩ := andNat p2 3 3 (by decide)
  rw [ea]
  show Go κ _ T123 46 #[.val (.int p0), .val (.int p1), .val (.int p2), .val (.int p3), .val (.ref x96), .val (.int (Int32.ofNat a)), .val (.int (p3 &&& (3 : Int32))), .unset, .unset, .unset, .unset, .unset, .unset, .unset] []
  obtain ⟨b, hb, eb⟩ := andNat p3 3 3 (by decide)
  rw [eb]
  show Go κ _ T123 46 #[.val (.int p0), .val (.int p1), .val (.int p2), .val (.int p3), .val (.ref x96), .val (.int (Int32.ofNat a)), .val (.int (Int32.ofNat b)), .unset, .unset, .unset, .unset, .unset, .unset, .unset] []
  refine blk (pc' := 47) (Ls' := #[.val (.int p0), .val (.int p1), .val (.int p2), .val (.int p3), .val (.ref x96), .val (.int (Int32.ofNat a)), .val (.int (Int32.ofNat b)), .unset, .unset, .unset, .unset, .unset, .unset, .unset]) (st' := [(.int (4 : Int32))]) [oIconst w126.ok (dc.g 33 rfl)] rfl ?_
  have hra := S2.lt (x := a) (by omega)
  have hrb := S2.lt (x := b) (by omega)
  have hr0 := S2.lt (x := 0) (by decide)
  have hr1 := S2.lt (x := 1) (by decide)
  have hr2 := S2.lt (x := 2) (by decide)
  have hr3 := S2.lt (x := 3) (by decide)
  have Y135 := (w126.old ozs).1
  refine w126.newarr (aty := .int) (wd hw 9 rfl) (dc.g 34 rfl) (c := 4) (by decide) (by decide) (cap := 4) (by first | decide | omega) (by first | decide | omega) (by decide) (by decide) rfl rfl ?_
  intro T136 h138 x139 w137 g140 E141 F142 S143
  show Go κ _ T136 49 #[.val (.int p0), .val (.int p1), .val (.int p2), .val (.int p3), .val (.ref x96), .val (.int (Int32.ofNat a)), .val (.int (Int32.ofNat b)), .unset, .unset, .unset, .unset, .unset, .unset, .unset] [(.ref x139)]
  have Y144 := (F131).lt
  have Y145 := (Y133).ext E141
  have Y146 := (Y134).ext E141
  have Y147 := (F131).ext E141
  have Y148 := F142.ne_exa Y145 (wd hw 1 rfl)
  have Y149 : x139 ≠ A := by rw [g140]; exact Nat.ne_of_gt Y144
  have Y150 : Ary Z h138 x139 .int [0, 0, 0, 0] := F142
  have Y151 : Z.heap.size ≤ x139 := by rw [g140]; exact Y135
  refine blk (pc' := 57) (Ls' := #[.val (.int p0), .val (.int p1), .val (.int p2), .val (.int p3), .val (.ref x96), .val (.int (Int32.ofNat a)), .val (.int (Int32.ofNat b)), .val (.ref x139), .unset, .unset, .unset, .unset, .unset, .unset]) (st' := [(.int (0 : Int32)), (.ref x96), (.int (0 : Int32)), (.ref x139)]) [oAstore w137.ok (dc.g 35 rfl), oAload w137.ok (dc.g 36 rfl), oIconst w137.ok (dc.g 37 rfl), oAload w137.ok (dc.g 38 rfl), oIconst w137.ok (dc.g 39 rfl)] rfl ?_
  show Go κ _ T136 57 #[.val (.int p0), .val (.int p1), .val (.int p2), .val (.int p3), .val (.ref x96), .val (.int (Int32.ofNat a)), .val (.int (Int32.ofNat b)), .val (.ref x139), .unset, .unset, .unset, .unset, .unset, .unset] [(.int (Int32.ofNat 0)), (.ref x96), (.int (0 : Int32)), (.ref x139)]
  refine w137.callV (wd hw 38 rfl) (wd hw 34 rfl) (notFace (wd hw 36 rfl)) (wd hw 36 rfl) (wd hw 35 rfl) (by decide) (a := x96) Y145 (argsL := [(.int (Int32.ofNat 0))]) (Wd := 2) (Ctr.pays (len := 3) (Wd := 2) (c_root l Z a0 hw hEL (x := 0) Y145 Y146 Y147 S2 (by decide) (by decide) hA0) w137 (wd hw 37 rfl) (wd hw 2 rfl) hEL (by decide) (by decide) sfNil) pd1 rfl (st := [(.int (0 : Int32)), (.ref x139)]) rfl rfl (Nat.le_of_eq rfl) (dc.g 40 rfl) (by decide) (by decide) ?_
  intro vm152 T153 h154 v155 w156 C157 Q158
  obtain ⟨qs159, rfl, K160, F161, R162⟩ := Q158
  show Go κ _ T153 60 #[.val (.int p0), .val (.int p1), .val (.int p2), .val (.int p3), .val (.ref x96), .val (.int (Int32.ofNat a)), .val (.int (Int32.ofNat b)), .val (.ref x139), .unset, .unset, .unset, .unset, .unset, .unset] [(.int (Int32.ofNat (ρ2 0))), (.int (0 : Int32)), (.ref x139)]
  have Y163 := (Y145).keep K160
  have Y164 := (Y146).keep K160 (ninS hdA nin0)
  have Y165 := (Y150).keep K160 (ninS Y149 nin0)
  refine w156.ist Y165 (i := 0) rfl (by simp) Y151 (dc.g 41 rfl) ?_
  intro T166 h168 w167 W169 F170
  show Go κ _ T166 61 #[.val (.int p0), .val (.int p1), .val (.int p2), .val (.int p3), .val (.ref x96), .val (.int (Int32.ofNat a)), .val (.int (Int32.ofNat b)), .val (.ref x139), .unset, .unset, .unset, .unset, .unset, .unset] []
  obtain ⟨slW169, vvW169, WW169⟩ := W169
  have Y171 := (Y163).wr WW169
  have Y172 := (Y164).other WW169 (Or.inl (Ne.symm Y148))
  have Y173 := (F161).other WW169 (Ne.symm Y149)
  have Y174 : Ary Z h168 x139 .int [(Int32.ofNat (ρ2 0)), 0, 0, 0] := F170
  refine blk (pc' := 67) (Ls' := #[.val (.int p0), .val (.int p1), .val (.int p2), .val (.int p3), .val (.ref x96), .val (.int (Int32.ofNat a)), .val (.int (Int32.ofNat b)), .val (.ref x139), .unset, .unset, .unset, .unset, .unset, .unset]) (st' := [(.int (1 : Int32)), (.ref x96), (.int (1 : Int32)), (.ref x139)]) [oAload w167.ok (dc.g 42 rfl), oIconst w167.ok (dc.g 43 rfl), oAload w167.ok (dc.g 44 rfl), oIconst w167.ok (dc.g 45 rfl)] rfl ?_
  show Go κ _ T166 67 #[.val (.int p0), .val (.int p1), .val (.int p2), .val (.int p3), .val (.ref x96), .val (.int (Int32.ofNat a)), .val (.int (Int32.ofNat b)), .val (.ref x139), .unset, .unset, .unset, .unset, .unset, .unset] [(.int (Int32.ofNat 1)), (.ref x96), (.int (1 : Int32)), (.ref x139)]
  refine w167.callV (wd hw 38 rfl) (wd hw 34 rfl) (notFace (wd hw 36 rfl)) (wd hw 36 rfl) (wd hw 35 rfl) (by decide) (a := x96) Y171 (argsL := [(.int (Int32.ofNat 1))]) (Wd := 2) (Ctr.pays (len := 3) (Wd := 2) (c_root l Z a0 hw hEL (x := 1) Y171 Y172 Y173 R162 (by decide) (by decide) hA0) w167 (wd hw 37 rfl) (wd hw 2 rfl) hEL (by decide) (by decide) sfNil) pd1 rfl (st := [(.int (1 : Int32)), (.ref x139)]) rfl rfl (Nat.le_of_eq rfl) (dc.g 46 rfl) (by decide) (by decide) ?_
  intro vm175 T176 h177 v178 w179 C180 Q181
  obtain ⟨qs182, rfl, K183, F184, R185⟩ := Q181
  show Go κ _ T176 70 #[.val (.int p0), .val (.int p1), .val (.int p2), .val (.int p3), .val (.ref x96), .val (.int (Int32.ofNat a)), .val (.int (Int32.ofNat b)), .val (.ref x139), .unset, .unset, .unset, .unset, .unset, .unset] [(.int (Int32.ofNat (ρ2 1))), (.int (1 : Int32)), (.ref x139)]
  have Y186 := (Y171).keep K183
  have Y187 := (Y172).keep K183 (ninS hdA nin0)
  have Y188 := (Y174).keep K183 (ninS Y149 nin0)
  refine w179.ist Y188 (i := 1) rfl (by simp) Y151 (dc.g 47 rfl) ?_
  intro T189 h191 w190 W192 F193
  show Go κ _ T189 71 #[.val (.int p0), .val (.int p1), .val (.int p2), .val (.int p3), .val (.ref x96), .val (.int (Int32.ofNat a)), .val (.int (Int32.ofNat b)), .val (.ref x139), .unset, .unset, .unset, .unset, .unset, .unset] []
  obtain ⟨slW192, vvW192, WW192⟩ := W192
  have Y194 := (Y186).wr WW192
  have Y195 := (Y187).other WW192 (Or.inl (Ne.symm Y148))
  have Y196 := (F184).other WW192 (Ne.symm Y149)
  have Y197 : Ary Z h191 x139 .int [(Int32.ofNat (ρ2 0)), (Int32.ofNat (ρ2 1)), 0, 0] := F193
  refine blk (pc' := 77) (Ls' := #[.val (.int p0), .val (.int p1), .val (.int p2), .val (.int p3), .val (.ref x96), .val (.int (Int32.ofNat a)), .val (.int (Int32.ofNat b)), .val (.ref x139), .unset, .unset, .unset, .unset, .unset, .unset]) (st' := [(.int (2 : Int32)), (.ref x96), (.int (2 : Int32)), (.ref x139)]) [oAload w190.ok (dc.g 48 rfl), oIconst w190.ok (dc.g 49 rfl), oAload w190.ok (dc.g 50 rfl), oIconst w190.ok (dc.g 51 rfl)] rfl ?_
  show Go κ _ T189 77 #[.val (.int p0), .val (.int p1), .val (.int p2), .val (.int p3), .val (.ref x96), .val (.int (Int32.ofNat a)), .val (.int (Int32.ofNat b)), .val (.ref x139), .unset, .unset, .unset, .unset, .unset, .unset] [(.int (Int32.ofNat 2)), (.ref x96), (.int (2 : Int32)), (.ref x139)]
  refine w190.callV (wd hw 38 rfl) (wd hw 34 rfl) (notFace (wd hw 36 rfl)) (wd hw 36 rfl) (wd hw 35 rfl) (by decide) (a := x96) Y194 (argsL := [(.int (Int32.ofNat 2))]) (Wd := 2) (Ctr.pays (len := 3) (Wd := 2) (c_root l Z a0 hw hEL (x := 2) Y194 Y195 Y196 R185 (by decide) (by decide) hA0) w190 (wd hw 37 rfl) (wd hw 2 rfl) hEL (by decide) (by decide) sfNil) pd1 rfl (st := [(.int (2 : Int32)), (.ref x139)]) rfl rfl (Nat.le_of_eq rfl) (dc.g 52 rfl) (by decide) (by decide) ?_
  intro vm198 T199 h200 v201 w202 C203 Q204
  obtain ⟨qs205, rfl, K206, F207, R208⟩ := Q204
  show Go κ _ T199 80 #[.val (.int p0), .val (.int p1), .val (.int p2), .val (.int p3), .val (.ref x96), .val (.int (Int32.ofNat a)), .val (.int (Int32.ofNat b)), .val (.ref x139), .unset, .unset, .unset, .unset, .unset, .unset] [(.int (Int32.ofNat (ρ2 2))), (.int (2 : Int32)), (.ref x139)]
  have Y209 := (Y194).keep K206
  have Y210 := (Y195).keep K206 (ninS hdA nin0)
  have Y211 := (Y197).keep K206 (ninS Y149 nin0)
  refine w202.ist Y211 (i := 2) rfl (by simp) Y151 (dc.g 53 rfl) ?_
  intro T212 h214 w213 W215 F216
  show Go κ _ T212 81 #[.val (.int p0), .val (.int p1), .val (.int p2), .val (.int p3), .val (.ref x96), .val (.int (Int32.ofNat a)), .val (.int (Int32.ofNat b)), .val (.ref x139), .unset, .unset, .unset, .unset, .unset, .unset] []
  obtain ⟨slW215, vvW215, WW215⟩ := W215
  have Y217 := (Y209).wr WW215
  have Y218 := (Y210).other WW215 (Or.inl (Ne.symm Y148))
  have Y219 := (F207).other WW215 (Ne.symm Y149)
  have Y220 : Ary Z h214 x139 .int [(Int32.ofNat (ρ2 0)), (Int32.ofNat (ρ2 1)), (Int32.ofNat (ρ2 2)), 0] := F216
  refine blk (pc' := 87) (Ls' := #[.val (.int p0), .val (.int p1), .val (.int p2), .val (.int p3), .val (.ref x96), .val (.int (Int32.ofNat a)), .val (.int (Int32.ofNat b)), .val (.ref x139), .unset, .unset, .unset, .unset, .unset, .unset]) (st' := [(.int (3 : Int32)), (.ref x96), (.int (3 : Int32)), (.ref x139)]) [oAload w213.ok (dc.g 54 rfl), oIconst w213.ok (dc.g 55 rfl), oAload w213.ok (dc.g 56 rfl), oIconst w213.ok (dc.g 57 rfl)] rfl ?_
  show Go κ _ T212 87 #[.val (.int p0), .val (.int p1), .val (.int p2), .val (.int p3), .val (.ref x96), .val (.int (Int32.ofNat a)), .val (.int (Int32.ofNat b)), .val (.ref x139), .unset, .unset, .unset, .unset, .unset, .unset] [(.int (Int32.ofNat 3)), (.ref x96), (.int (3 : Int32)), (.ref x139)]
  refine w213.callV (wd hw 38 rfl) (wd hw 34 rfl) (notFace (wd hw 36 rfl)) (wd hw 36 rfl) (wd hw 35 rfl) (by decide) (a := x96) Y217 (argsL := [(.int (Int32.ofNat 3))]) (Wd := 2) (Ctr.pays (len := 3) (Wd := 2) (c_root l Z a0 hw hEL (x := 3) Y217 Y218 Y219 R208 (by decide) (by decide) hA0) w213 (wd hw 37 rfl) (wd hw 2 rfl) hEL (by decide) (by decide) sfNil) pd1 rfl (st := [(.int (3 : Int32)), (.ref x139)]) rfl rfl (Nat.le_of_eq rfl) (dc.g 58 rfl) (by decide) (by decide) ?_
  intro vm221 T222 h223 v224 w225 C226 Q227
  obtain ⟨qs228, rfl, K229, F230, R231⟩ := Q227
  show Go κ _ T222 90 #[.val (.int p0), .val (.int p1), .val (.int p2), .val (.int p3), .val (.ref x96), .val (.int (Int32.ofNat a)), .val (.int (Int32.ofNat b)), .val (.ref x139), .unset, .unset, .unset, .unset, .unset, .unset] [(.int (Int32.ofNat (ρ2 3))), (.int (3 : Int32)), (.ref x139)]
  have Y232 := (Y217).keep K229
  have Y233 := (Y218).keep K229 (ninS hdA nin0)
  have Y234 := (Y220).keep K229 (ninS Y149 nin0)
  refine w225.ist Y234 (i := 3) rfl (by simp) Y151 (dc.g 59 rfl) ?_
  intro T235 h237 w236 W238 F239
  show Go κ _ T235 91 #[.val (.int p0), .val (.int p1), .val (.int p2), .val (.int p3), .val (.ref x96), .val (.int (Int32.ofNat a)), .val (.int (Int32.ofNat b)), .val (.ref x139), .unset, .unset, .unset, .unset, .unset, .unset] []
  obtain ⟨slW238, vvW238, WW238⟩ := W238
  have Y240 := (Y232).wr WW238
  have Y241 := (Y233).other WW238 (Or.inl (Ne.symm Y148))
  have Y242 := (F230).other WW238 (Ne.symm Y149)
  have Y243 : Ary Z h237 x139 .int [(Int32.ofNat (ρ2 0)), (Int32.ofNat (ρ2 1)), (Int32.ofNat (ρ2 2)), (Int32.ofNat (ρ2 3))] := F239
  have hr : ∀ j, j < 4 → ([(Int32.ofNat (ρ2 0)), (Int32.ofNat (ρ2 1)), (Int32.ofNat (ρ2 2)), (Int32.ofNat (ρ2 3))] : List Int32)[j]? = some (Int32.ofNat (ρ2 j)) := by
    intro j hj
    obtain rfl | rfl | rfl | rfl : j = 0 ∨ j = 1 ∨ j = 2 ∨ j = 3 := by omega
    all_goals rfl
  refine blk (pc' := 95) (Ls' := #[.val (.int p0), .val (.int p1), .val (.int p2), .val (.int p3), .val (.ref x96), .val (.int (Int32.ofNat a)), .val (.int (Int32.ofNat b)), .val (.ref x139), .unset, .unset, .unset, .unset, .unset, .unset]) (st' := [(.int (Int32.ofNat a)), (.ref x139)]) [oAload w236.ok (dc.g 60 rfl), oIload w236.ok (dc.g 61 rfl)] rfl ?_
  refine w236.ild Y243 (i := a) rfl (hr a (by omega)) (dc.g 62 rfl) ?_
  show Go κ _ T235 96 #[.val (.int p0), .val (.int p1), .val (.int p2), .val (.int p3), .val (.ref x96), .val (.int (Int32.ofNat a)), .val (.int (Int32.ofNat b)), .val (.ref x139), .unset, .unset, .unset, .unset, .unset, .unset] [(.int (Int32.ofNat (ρ2 a)))]
  refine blk (pc' := 102) (Ls' := #[.val (.int p0), .val (.int p1), .val (.int p2), .val (.int p3), .val (.ref x96), .val (.int (Int32.ofNat a)), .val (.int (Int32.ofNat b)), .val (.ref x139), .val (.int (Int32.ofNat (ρ2 a))), .unset, .unset, .unset, .unset, .unset]) (st' := [(.int (Int32.ofNat b)), (.ref x139)]) [oIstore w236.ok (dc.g 63 rfl), oAload w236.ok (dc.g 64 rfl), oIload w236.ok (dc.g 65 rfl)] rfl ?_
  refine w236.ild Y243 (i := b) rfl (hr b (by omega)) (dc.g 66 rfl) ?_
  show Go κ _ T235 103 #[.val (.int p0), .val (.int p1), .val (.int p2), .val (.int p3), .val (.ref x96), .val (.int (Int32.ofNat a)), .val (.int (Int32.ofNat b)), .val (.ref x139), .val (.int (Int32.ofNat (ρ2 a))), .unset, .unset, .unset, .unset, .unset] [(.int (Int32.ofNat (ρ2 b)))]
  refine blk (pc' := 106) (Ls' := #[.val (.int p0), .val (.int p1), .val (.int p2), .val (.int p3), .val (.ref x96), .val (.int (Int32.ofNat a)), .val (.int (Int32.ofNat b)), .val (.ref x139), .val (.int (Int32.ofNat (ρ2 a))), .val (.int (Int32.ofNat (ρ2 b))), .unset, .unset, .unset, .unset]) (st' := [(.int (4 : Int32))]) [oIstore w236.ok (dc.g 67 rfl), oIconst w236.ok (dc.g 68 rfl)] rfl ?_
  obtain ⟨ρ3, hρ3⟩ : ∃ ρ3 : Nat → Nat, ∀ x, ρ3 x = if ρ2 x = ρ2 a then ρ2 b else ρ2 x := ⟨_, fun _ => rfl⟩
  have Y244 := (w236.old ozs).1
  refine w236.newarr (aty := .int) (wd hw 9 rfl) (dc.g 69 rfl) (c := 4) (by decide) (by decide) (cap := 4) (by first | decide | omega) (by first | decide | omega) (by decide) (by decide) rfl rfl ?_
  intro T245 h247 x248 w246 g249 E250 F251 S252
  show Go κ _ T245 108 #[.val (.int p0), .val (.int p1), .val (.int p2), .val (.int p3), .val (.ref x96), .val (.int (Int32.ofNat a)), .val (.int (Int32.ofNat b)), .val (.ref x139), .val (.int (Int32.ofNat (ρ2 a))), .val (.int (Int32.ofNat (ρ2 b))), .unset, .unset, .unset, .unset] [(.ref x248)]
  have Y253 := (Y242).lt
  have Y254 := (Y243).lt
  have Y255 := (Y240).ext E250
  have Y256 := (Y241).ext E250
  have Y257 := (Y242).ext E250
  have Y258 := (Y243).ext E250
  have Y259 := F251.ne_exa Y255 (wd hw 1 rfl)
  have Y260 : x248 ≠ A := by rw [g249]; exact Nat.ne_of_gt Y253
  have Y261 : x248 ≠ x139 := by rw [g249]; exact Nat.ne_of_gt Y254
  have Y262 := Ne.symm Y261
  have Y263 : Ary Z h247 x248 .int [0, 0, 0, 0] := F251
  have Y264 : Z.heap.size ≤ x248 := by rw [g249]; exact Y244
  refine blk (pc' := 116) (Ls' := #[.val (.int p0), .val (.int p1), .val (.int p2), .val (.int p3), .val (.ref x96), .val (.int (Int32.ofNat a)), .val (.int (Int32.ofNat b)), .val (.ref x139), .val (.int (Int32.ofNat (ρ2 a))), .val (.int (Int32.ofNat (ρ2 b))), .val (.ref x248), .unset, .unset, .unset]) (st' := [(.int (0 : Int32)), (.ref x139), (.int (0 : Int32)), (.ref x248)]) [oAstore w246.ok (dc.g 70 rfl), oAload w246.ok (dc.g 71 rfl), oIconst w246.ok (dc.g 72 rfl), oAload w246.ok (dc.g 73 rfl), oIconst w246.ok (dc.g 74 rfl)] rfl ?_
  refine w246.ild Y258 (i := 0) rfl (hr 0 (by decide)) (dc.g 75 rfl) ?_
  show Go κ _ T245 117 #[.val (.int p0), .val (.int p1), .val (.int p2), .val (.int p3), .val (.ref x96), .val (.int (Int32.ofNat a)), .val (.int (Int32.ofNat b)), .val (.ref x139), .val (.int (Int32.ofNat (ρ2 a))), .val (.int (Int32.ofNat (ρ2 b))), .val (.ref x248), .unset, .unset, .unset] [(.int (Int32.ofNat (ρ2 0))), (.int (0 : Int32)), (.ref x248)]
  refine blk (pc' := 119) (Ls' := #[.val (.int p0), .val (.int p1), .val (.int p2), .val (.int p3), .val (.ref x96), .val (.int (Int32.ofNat a)), .val (.int (Int32.ofNat b)), .val (.ref x139), .val (.int (Int32.ofNat (ρ2 a))), .val (.int (Int32.ofNat (ρ2 b))), .val (.ref x248), .unset, .unset, .unset]) (st' := [(.int (Int32.ofNat (ρ2 a))), (.int (Int32.ofNat (ρ2 0))), (.int (0 : Int32)), (.ref x248)]) [oIload w246.ok (dc.g 76 rfl)] rfl ?_
  suffices k131 : Go κ (GQ κ Z [] room_1 (fun v h' S => v = some (.int 1))) T245 131 #[.val (.int p0), .val (.int p1), .val (.int p2), .val (.int p3), .val (.ref x96), .val (.int (Int32.ofNat a)), .val (.int (Int32.ofNat b)), .val (.ref x139), .val (.int (Int32.ofNat (ρ2 a))), .val (.int (Int32.ofNat (ρ2 b))), .val (.ref x248), .unset, .unset, .unset] [(.int (Int32.ofNat (ρ3 0))), (.int (0 : Int32)), (.ref x248)] by
    refine cNe (pc' := 127) w246.ok (dc.g 77 rfl) (by decide) (by decide) (fun hc265 => ?_) (fun hc265 => ?_)
    · show Go κ _ T245 127 #[.val (.int p0), .val (.int p1), .val (.int p2), .val (.int p3), .val (.ref x96), .val (.int (Int32.ofNat a)), .val (.int (Int32.ofNat b)), .val (.ref x139), .val (.int (Int32.ofNat (ρ2 a))), .val (.int (Int32.ofNat (ρ2 b))), .val (.ref x248), .unset, .unset, .unset] [(.int (0 : Int32)), (.ref x248)]
      refine blk (pc' := 130) (Ls' := #[.val (.int p0), .val (.int p1), .val (.int p2), .val (.int p3), .val (.ref x96), .val (.int (Int32.ofNat a)), .val (.int (Int32.ofNat b)), .val (.ref x139), .val (.int (Int32.ofNat (ρ2 a))), .val (.int (Int32.ofNat (ρ2 b))), .val (.ref x248), .unset, .unset, .unset]) (st' := [(.int (0 : Int32)), (.ref x139), (.int (0 : Int32)), (.ref x248)]) [oAload w246.ok (dc.g 80 rfl), oIconst w246.ok (dc.g 81 rfl)] rfl ?_
      refine w246.ild Y258 (i := 0) rfl (hr 0 (by decide)) (dc.g 82 rfl) ?_
      show Go κ _ T245 131 #[.val (.int p0), .val (.int p1), .val (.int p2), .val (.int p3), .val (.ref x96), .val (.int (Int32.ofNat a)), .val (.int (Int32.ofNat b)), .val (.ref x139), .val (.int (Int32.ofNat (ρ2 a))), .val (.int (Int32.ofNat (ρ2 b))), .val (.ref x248), .unset, .unset, .unset] [(.int (Int32.ofNat (ρ2 0))), (.int (0 : Int32)), (.ref x248)]
      refine Go.top (y := Int32.ofNat (ρ3 0)) (by rw [hρ3, if_neg (fun q => hc265 (by rw [q]))]) ?_
      exact k131
    · show Go κ _ T245 122 #[.val (.int p0), .val (.int p1), .val (.int p2), .val (.int p3), .val (.ref x96), .val (.int (Int32.ofNat a)), .val (.int (Int32.ofNat b)), .val (.ref x139), .val (.int (Int32.ofNat (ρ2 a))), .val (.int (Int32.ofNat (ρ2 b))), .val (.ref x248), .unset, .unset, .unset] [(.int (0 : Int32)), (.ref x248)]
      refine blk (pc' := 131) (Ls' := #[.val (.int p0), .val (.int p1), .val (.int p2), .val (.int p3), .val (.ref x96), .val (.int (Int32.ofNat a)), .val (.int (Int32.ofNat b)), .val (.ref x139), .val (.int (Int32.ofNat (ρ2 a))), .val (.int (Int32.ofNat (ρ2 b))), .val (.ref x248), .unset, .unset, .unset]) (st' := [(.int (Int32.ofNat (ρ2 b))), (.int (0 : Int32)), (.ref x248)]) [oIload w246.ok (dc.g 78 rfl), oGoto w246.ok 131 (dc.g 79 rfl)] rfl ?_
      refine Go.top (y := Int32.ofNat (ρ3 0)) (by rw [hρ3, if_pos ((ofNat_inj (by omega) (by omega)).mp hc265)]) ?_
      exact k131
  show Go κ _ T245 131 #[.val (.int p0), .val (.int p1), .val (.int p2), .val (.int p3), .val (.ref x96), .val (.int (Int32.ofNat a)), .val (.int (Int32.ofNat b)), .val (.ref x139), .val (.int (Int32.ofNat (ρ2 a))), .val (.int (Int32.ofNat (ρ2 b))), .val (.ref x248), .unset, .unset, .unset] [(.int (Int32.ofNat (ρ3 0))), (.int (0 : Int32)), (.ref x248)]
  refine w246.ist Y263 (i := 0) rfl (by simp) Y264 (dc.g 83 rfl) ?_
  intro T266 h268 w267 W269 F270
  show Go κ _ T266 132 #[.val (.int p0), .val (.int p1), .val (.int p2), .val (.int p3), .val (.ref x96), .val (.int (Int32.ofNat a)), .val (.int (Int32.ofNat b)), .val (.ref x139), .val (.int (Int32.ofNat (ρ2 a))), .val (.int (Int32.ofNat (ρ2 b))), .val (.ref x248), .unset, .unset, .unset] []
  obtain ⟨slW269, vvW269, WW269⟩ := W269
  have Y271 := (Y255).wr WW269
  have Y272 := (Y256).other WW269 (Or.inl (Ne.symm Y259))
  have Y273 := (Y257).other WW269 (Ne.symm Y260)
  have Y274 := (Y258).other WW269 Y262
  have Y275 : Ary Z h268 x248 .int [(Int32.ofNat (ρ3 0)), 0, 0, 0] := F270
  refine blk (pc' := 138) (Ls' := #[.val (.int p0), .val (.int p1), .val (.int p2), .val (.int p3), .val (.ref x96), .val (.int (Int32.ofNat a)), .val (.int (Int32.ofNat b)), .val (.ref x139), .val (.int (Int32.ofNat (ρ2 a))), .val (.int (Int32.ofNat (ρ2 b))), .val (.ref x248), .unset, .unset, .unset]) (st' := [(.int (1 : Int32)), (.ref x139), (.int (1 : Int32)), (.ref x248)]) [oAload w267.ok (dc.g 84 rfl), oIconst w267.ok (dc.g 85 rfl), oAload w267.ok (dc.g 86 rfl), oIconst w267.ok (dc.g 87 rfl)] rfl ?_
  refine w267.ild Y274 (i := 1) rfl (hr 1 (by decide)) (dc.g 88 rfl) ?_
  show Go κ _ T266 139 #[.val (.int p0), .val (.int p1), .val (.int p2), .val (.int p3), .val (.ref x96), .val (.int (Int32.ofNat a)), .val (.int (Int32.ofNat b)), .val (.ref x139), .val (.int (Int32.ofNat (ρ2 a))), .val (.int (Int32.ofNat (ρ2 b))), .val (.ref x248), .unset, .unset, .unset] [(.int (Int32.ofNat (ρ2 1))), (.int (1 : Int32)), (.ref x248)]
  refine blk (pc' := 141) (Ls' := #[.val (.int p0), .val (.int p1), .val (.int p2), .val (.int p3), .val (.ref x96), .val (.int (Int32.ofNat a)), .val (.int (Int32.ofNat b)), .val (.ref x139), .val (.int (Int32.ofNat (ρ2 a))), .val (.int (Int32.ofNat (ρ2 b))), .val (.ref x248), .unset, .unset, .unset]) (st' := [(.int (Int32.ofNat (ρ2 a))), (.int (Int32.ofNat (ρ2 1))), (.int (1 : Int32)), (.ref x248)]) [oIload w267.ok (dc.g 89 rfl)] rfl ?_
  suffices k153 : Go κ (GQ κ Z [] room_1 (fun v h' S => v = some (.int 1))) T266 153 #[.val (.int p0), .val (.int p1), .val (.int p2), .val (.int p3), .val (.ref x96), .val (.int (Int32.ofNat a)), .val (.int (Int32.ofNat b)), .val (.ref x139), .val (.int (Int32.ofNat (ρ2 a))), .val (.int (Int32.ofNat (ρ2 b))), .val (.ref x248), .unset, .unset, .unset] [(.int (Int32.ofNat (ρ3 1))), (.int (1 : Int32)), (.ref x248)] by
    refine cNe (pc' := 149) w267.ok (dc.g 90 rfl) (by decide) (by decide) (fun hc276 => ?_) (fun hc276 => ?_)
    · show Go κ _ T266 149 #[.val (.int p0), .val (.int p1), .val (.int p2), .val (.int p3), .val (.ref x96), .val (.int (Int32.ofNat a)), .val (.int (Int32.ofNat b)), .val (.ref x139), .val (.int (Int32.ofNat (ρ2 a))), .val (.int (Int32.ofNat (ρ2 b))), .val (.ref x248), .unset, .unset, .unset] [(.int (1 : Int32)), (.ref x248)]
      refine blk (pc' := 152) (Ls' := #[.val (.int p0), .val (.int p1), .val (.int p2), .val (.int p3), .val (.ref x96), .val (.int (Int32.ofNat a)), .val (.int (Int32.ofNat b)), .val (.ref x139), .val (.int (Int32.ofNat (ρ2 a))), .val (.int (Int32.ofNat (ρ2 b))), .val (.ref x248), .unset, .unset, .unset]) (st' := [(.int (1 : Int32)), (.ref x139), (.int (1 : Int32)), (.ref x248)]) [oAload w267.ok (dc.g 93 rfl), oIconst w267.ok (dc.g 94 rfl)] rfl ?_
      refine w267.ild Y274 (i := 1) rfl (hr 1 (by decide)) (dc.g 95 rfl) ?_
      show Go κ _ T266 153 #[.val (.int p0), .val (.int p1), .val (.int p2), .val (.int p3), .val (.ref x96), .val (.int (Int32.ofNat a)), .val (.int (Int32.ofNat b)), .val (.ref x139), .val (.int (Int32.ofNat (ρ2 a))), .val (.int (Int32.ofNat (ρ2 b))), .val (.ref x248), .unset, .unset, .unset] [(.int (Int32.ofNat (ρ2 1))), (.int (1 : Int32)), (.ref x248)]
      refine Go.top (y := Int32.ofNat (ρ3 1)) (by rw [hρ3, if_neg (fun q => hc276 (by rw [q]))]) ?_
      exact k153
    · show Go κ _ T266 144 #[.val (.int p0), .val (.int p1), .val (.int p2), .val (.int p3), .val (.ref x96), .val (.int (Int32.ofNat a)), .val (.int (Int32.ofNat b)), .val (.ref x139), .val (.int (Int32.ofNat (ρ2 a))), .val (.int (Int32.ofNat (ρ2 b))), .val (.ref x248), .unset, .unset, .unset] [(.int (1 : Int32)), (.ref x248)]
      refine blk (pc' := 153) (Ls' := #[.val (.int p0), .val (.int p1), .val (.int p2), .val (.int p3), .val (.ref x96), .val (.int (Int32.ofNat a)), .val (.int (Int32.ofNat b)), .val (.ref x139), .val (.int (Int32.ofNat (ρ2 a))), .val (.int (Int32.ofNat (ρ2 b))), .val (.ref x248), .unset, .unset, .unset]) (st' := [(.int (Int32.ofNat (ρ2 b))), (.int (1 : Int32)), (.ref x248)]) [oIload w267.ok (dc.g 91 rfl), oGoto w267.ok 153 (dc.g 92 rfl)] rfl ?_
      refine Go.top (y := Int32.ofNat (ρ3 1)) (by rw [hρ3, if_pos ((ofNat_inj (by omega) (by omega)).mp hc276)]) ?_
      exact k153
  show Go κ _ T266 153 #[.val (.int p0), .val (.int p1), .val (.int p2), .val (.int p3), .val (.ref x96), .val (.int (Int32.ofNat a)), .val (.int (Int32.ofNat b)), .val (.ref x139), .val (.int (Int32.ofNat (ρ2 a))), .val (.int (Int32.ofNat (ρ2 b))), .val (.ref x248), .unset, .unset, .unset] [(.int (Int32.ofNat (ρ3 1))), (.int (1 : Int32)), (.ref x248)]
  refine w267.ist Y275 (i := 1) rfl (by simp) Y264 (dc.g 96 rfl) ?_
  intro T277 h279 w278 W280 F281
  show Go κ _ T277 154 #[.val (.int p0), .val (.int p1), .val (.int p2), .val (.int p3), .val (.ref x96), .val (.int (Int32.ofNat a)), .val (.int (Int32.ofNat b)), .val (.ref x139), .val (.int (Int32.ofNat (ρ2 a))), .val (.int (Int32.ofNat (ρ2 b))), .val (.ref x248), .unset, .unset, .unset] []
  obtain ⟨slW280, vvW280, WW280⟩ := W280
  have Y282 := (Y271).wr WW280
  have Y283 := (Y272).other WW280 (Or.inl (Ne.symm Y259))
  have Y284 := (Y273).other WW280 (Ne.symm Y260)
  have Y285 := (Y274).other WW280 Y262
  have Y286 : Ary Z h279 x248 .int [(Int32.ofNat (ρ3 0)), (Int32.ofNat (ρ3 1)), 0, 0] := F281
  refine blk (pc' := 160) (Ls' := #[.val (.int p0), .val (.int p1), .val (.int p2), .val (.int p3), .val (.ref x96), .val (.int (Int32.ofNat a)), .val (.int (Int32.ofNat b)), .val (.ref x139), .val (.int (Int32.ofNat (ρ2 a))), .val (.int (Int32.ofNat (ρ2 b))), .val (.ref x248), .unset, .unset, .unset]) (st' := [(.int (2 : Int32)), (.ref x139), (.int (2 : Int32)), (.ref x248)]) [oAload w278.ok (dc.g 97 rfl), oIconst w278.ok (dc.g 98 rfl), oAload w278.ok (dc.g 99 rfl), oIconst w278.ok (dc.g 100 rfl)] rfl ?_
  refine w278.ild Y285 (i := 2) rfl (hr 2 (by decide)) (dc.g 101 rfl) ?_
  show Go κ _ T277 161 #[.val (.int p0), .val (.int p1), .val (.int p2), .val (.int p3), .val (.ref x96), .val (.int (Int32.ofNat a)), .val (.int (Int32.ofNat b)), .val (.ref x139), .val (.int (Int32.ofNat (ρ2 a))), .val (.int (Int32.ofNat (ρ2 b))), .val (.ref x248), .unset, .unset, .unset] [(.int (Int32.ofNat (ρ2 2))), (.int (2 : Int32)), (.ref x248)]
  refine blk (pc' := 163) (Ls' := #[.val (.int p0), .val (.int p1), .val (.int p2), .val (.int p3), .val (.ref x96), .val (.int (Int32.ofNat a)), .val (.int (Int32.ofNat b)), .val (.ref x139), .val (.int (Int32.ofNat (ρ2 a))), .val (.int (Int32.ofNat (ρ2 b))), .val (.ref x248), .unset, .unset, .unset]) (st' := [(.int (Int32.ofNat (ρ2 a))), (.int (Int32.ofNat (ρ2 2))), (.int (2 : Int32)), (.ref x248)]) [oIload w278.ok (dc.g 102 rfl)] rfl ?_
  suffices k175 : Go κ (GQ κ Z [] room_1 (fun v h' S => v = some (.int 1))) T277 175 #[.val (.int p0), .val (.int p1), .val (.int p2), .val (.int p3), .val (.ref x96), .val (.int (Int32.ofNat a)), .val (.int (Int32.ofNat b)), .val (.ref x139), .val (.int (Int32.ofNat (ρ2 a))), .val (.int (Int32.ofNat (ρ2 b))), .val (.ref x248), .unset, .unset, .unset] [(.int (Int32.ofNat (ρ3 2))), (.int (2 : Int32)), (.ref x248)] by
    refine cNe (pc' := 171) w278.ok (dc.g 103 rfl) (by decide) (by decide) (fun hc287 => ?_) (fun hc287 => ?_)
    · show Go κ _ T277 171 #[.val (.int p0), .val (.int p1), .val (.int p2), .val (.int p3), .val (.ref x96), .val (.int (Int32.ofNat a)), .val (.int (Int32.ofNat b)), .val (.ref x139), .val (.int (Int32.ofNat (ρ2 a))), .val (.int (Int32.ofNat (ρ2 b))), .val (.ref x248), .unset, .unset, .unset] [(.int (2 : Int32)), (.ref x248)]
      refine blk (pc' := 174) (Ls' := #[.val (.int p0), .val (.int p1), .val (.int p2), .val (.int p3), .val (.ref x96), .val (.int (Int32.ofNat a)), .val (.int (Int32.ofNat b)), .val (.ref x139), .val (.int (Int32.ofNat (ρ2 a))), .val (.int (Int32.ofNat (ρ2 b))), .val (.ref x248), .unset, .unset, .unset]) (st' := [(.int (2 : Int32)), (.ref x139), (.int (2 : Int32)), (.ref x248)]) [oAload w278.ok (dc.g 106 rfl), oIconst w278.ok (dc.g 107 rfl)] rfl ?_
      refine w278.ild Y285 (i := 2) rfl (hr 2 (by decide)) (dc.g 108 rfl) ?_
      show Go κ _ T277 175 #[.val (.int p0), .val (.int p1), .val (.int p2), .val (.int p3), .val (.ref x96), .val (.int (Int32.ofNat a)), .val (.int (Int32.ofNat b)), .val (.ref x139), .val (.int (Int32.ofNat (ρ2 a))), .val (.int (Int32.ofNat (ρ2 b))), .val (.ref x248), .unset, .unset, .unset] [(.int (Int32.ofNat (ρ2 2))), (.int (2 : Int32)), (.ref x248)]
      refine Go.top (y := Int32.ofNat (ρ3 2)) (by rw [hρ3, if_neg (fun q => hc287 (by rw [q]))]) ?_
      exact k175
    · show Go κ _ T277 166 #[.val (.int p0), .val (.int p1), .val (.int p2), .val (.int p3), .val (.ref x96), .val (.int (Int32.ofNat a)), .val (.int (Int32.ofNat b)), .val (.ref x139), .val (.int (Int32.ofNat (ρ2 a))), .val (.int (Int32.ofNat (ρ2 b))), .val (.ref x248), .unset, .unset, .unset] [(.int (2 : Int32)), (.ref x248)]
      refine blk (pc' := 175) (Ls' := #[.val (.int p0), .val (.int p1), .val (.int p2), .val (.int p3), .val (.ref x96), .val (.int (Int32.ofNat a)), .val (.int (Int32.ofNat b)), .val (.ref x139), .val (.int (Int32.ofNat (ρ2 a))), .val (.int (Int32.ofNat (ρ2 b))), .val (.ref x248), .unset, .unset, .unset]) (st' := [(.int (Int32.ofNat (ρ2 b))), (.int (2 : Int32)), (.ref x248)]) [oIload w278.ok (dc.g 104 rfl), oGoto w278.ok 175 (dc.g 105 rfl)] rfl ?_
      refine Go.top (y := Int32.ofNat (ρ3 2)) (by rw [hρ3, if_pos ((ofNat_inj (by omega) (by omega)).mp hc287)]) ?_
      exact k175
  show Go κ _ T277 175 #[.val (.int p0), .val (.int p1), .val (.int p2), .val (.int p3), .val (.ref x96), .val (.int (Int32.ofNat a)), .val (.int (Int32.ofNat b)), .val (.ref x139), .val (.int (Int32.ofNat (ρ2 a))), .val (.int (Int32.ofNat (ρ2 b))), .val (.ref x248), .unset, .unset, .unset] [(.int (Int32.ofNat (ρ3 2))), (.int (2 : Int32)), (.ref x248)]
  refine w278.ist Y286 (i := 2) rfl (by simp) Y264 (dc.g 109 rfl) ?_
  intro T288 h290 w289 W291 F292
  show Go κ _ T288 176 #[.val (.int p0), .val (.int p1), .val (.int p2), .val (.int p3), .val (.ref x96), .val (.int (Int32.ofNat a)), .val (.int (Int32.ofNat b)), .val (.ref x139), .val (.int (Int32.ofNat (ρ2 a))), .val (.int (Int32.ofNat (ρ2 b))), .val (.ref x248), .unset, .unset, .unset] []
  obtain ⟨slW291, vvW291, WW291⟩ := W291
  have Y293 := (Y282).wr WW291
  have Y294 := (Y283).other WW291 (Or.inl (Ne.symm Y259))
  have Y295 := (Y284).other WW291 (Ne.symm Y260)
  have Y296 := (Y285).other WW291 Y262
  have Y297 : Ary Z h290 x248 .int [(Int32.ofNat (ρ3 0)), (Int32.ofNat (ρ3 1)), (Int32.ofNat (ρ3 2)), 0] := F292
  refine blk (pc' := 182) (Ls' := #[.val (.int p0), .val (.int p1), .val (.int p2), .val (.int p3), .val (.ref x96), .val (.int (Int32.ofNat a)), .val (.int (Int32.ofNat b)), .val (.ref x139), .val (.int (Int32.ofNat (ρ2 a))), .val (.int (Int32.ofNat (ρ2 b))), .val (.ref x248), .unset, .unset, .unset]) (st' := [(.int (3 : Int32)), (.ref x139), (.int (3 : Int32)), (.ref x248)]) [oAload w289.ok (dc.g 110 rfl), oIconst w289.ok (dc.g 111 rfl), oAload w289.ok (dc.g 112 rfl), oIconst w289.ok (dc.g 113 rfl)] rfl ?_
  refine w289.ild Y296 (i := 3) rfl (hr 3 (by decide)) (dc.g 114 rfl) ?_
  show Go κ _ T288 183 #[.val (.int p0), .val (.int p1), .val (.int p2), .val (.int p3), .val (.ref x96), .val (.int (Int32.ofNat a)), .val (.int (Int32.ofNat b)), .val (.ref x139), .val (.int (Int32.ofNat (ρ2 a))), .val (.int (Int32.ofNat (ρ2 b))), .val (.ref x248), .unset, .unset, .unset] [(.int (Int32.ofNat (ρ2 3))), (.int (3 : Int32)), (.ref x248)]
  refine blk (pc' := 185) (Ls' := #[.val (.int p0), .val (.int p1), .val (.int p2), .val (.int p3), .val (.ref x96), .val (.int (Int32.ofNat a)), .val (.int (Int32.ofNat b)), .val (.ref x139), .val (.int (Int32.ofNat (ρ2 a))), .val (.int (Int32.ofNat (ρ2 b))), .val (.ref x248), .unset, .unset, .unset]) (st' := [(.int (Int32.ofNat (ρ2 a))), (.int (Int32.ofNat (ρ2 3))), (.int (3 : Int32)), (.ref x248)]) [oIload w289.ok (dc.g 115 rfl)] rfl ?_
  suffices k197 : Go κ (GQ κ Z [] room_1 (fun v h' S => v = some (.int 1))) T288 197 #[.val (.int p0), .val (.int p1), .val (.int p2), .val (.int p3), .val (.ref x96), .val (.int (Int32.ofNat a)), .val (.int (Int32.ofNat b)), .val (.ref x139), .val (.int (Int32.ofNat (ρ2 a))), .val (.int (Int32.ofNat (ρ2 b))), .val (.ref x248), .unset, .unset, .unset] [(.int (Int32.ofNat (ρ3 3))), (.int (3 : Int32)), (.ref x248)] by
    refine cNe (pc' := 193) w289.ok (dc.g 116 rfl) (by decide) (by decide) (fun hc298 => ?_) (fun hc298 => ?_)
    · show Go κ _ T288 193 #[.val (.int p0), .val (.int p1), .val (.int p2), .val (.int p3), .val (.ref x96), .val (.int (Int32.ofNat a)), .val (.int (Int32.ofNat b)), .val (.ref x139), .val (.int (Int32.ofNat (ρ2 a))), .val (.int (Int32.ofNat (ρ2 b))), .val (.ref x248), .unset, .unset, .unset] [(.int (3 : Int32)), (.ref x248)]
      refine blk (pc' := 196) (Ls' := #[.val (.int p0), .val (.int p1), .val (.int p2), .val (.int p3), .val (.ref x96), .val (.int (Int32.ofNat a)), .val (.int (Int32.ofNat b)), .val (.ref x139), .val (.int (Int32.ofNat (ρ2 a))), .val (.int (Int32.ofNat (ρ2 b))), .val (.ref x248), .unset, .unset, .unset]) (st' := [(.int (3 : Int32)), (.ref x139), (.int (3 : Int32)), (.ref x248)]) [oAload w289.ok (dc.g 119 rfl), oIconst w289.ok (dc.g 120 rfl)] rfl ?_
      refine w289.ild Y296 (i := 3) rfl (hr 3 (by decide)) (dc.g 121 rfl) ?_
      show Go κ _ T288 197 #[.val (.int p0), .val (.int p1), .val (.int p2), .val (.int p3), .val (.ref x96), .val (.int (Int32.ofNat a)), .val (.int (Int32.ofNat b)), .val (.ref x139), .val (.int (Int32.ofNat (ρ2 a))), .val (.int (Int32.ofNat (ρ2 b))), .val (.ref x248), .unset, .unset, .unset] [(.int (Int32.ofNat (ρ2 3))), (.int (3 : Int32)), (.ref x248)]
      refine Go.top (y := Int32.ofNat (ρ3 3)) (by rw [hρ3, if_neg (fun q => hc298 (by rw [q]))]) ?_
      exact k197
    · show Go κ _ T288 188 #[.val (.int p0), .val (.int p1), .val (.int p2), .val (.int p3), .val (.ref x96), .val (.int (Int32.ofNat a)), .val (.int (Int32.ofNat b)), .val (.ref x139), .val (.int (Int32.ofNat (ρ2 a))), .val (.int (Int32.ofNat (ρ2 b))), .val (.ref x248), .unset, .unset, .unset] [(.int (3 : Int32)), (.ref x248)]
      refine blk (pc' := 197) (Ls' := #[.val (.int p0), .val (.int p1), .val (.int p2), .val (.int p3), .val (.ref x96), .val (.int (Int32.ofNat a)), .val (.int (Int32.ofNat b)), .val (.ref x139), .val (.int (Int32.ofNat (ρ2 a))), .val (.int (Int32.ofNat (ρ2 b))), .val (.ref x248), .unset, .unset, .unset]) (st' := [(.int (Int32.ofNat (ρ2 b))), (.int (3 : Int32)), (.ref x248)]) [oIload w289.ok (dc.g 117 rfl), oGoto w289.ok 197 (dc.g 118 rfl)] rfl ?_
      refine Go.top (y := Int32.ofNat (ρ3 3)) (by rw [hρ3, if_pos ((ofNat_inj (by omega) (by omega)).mp hc298)]) ?_
      exact k197
  show Go κ _ T288 197 #[.val (.int p0), .val (.int p1), .val (.int p2), .val (.int p3), .val (.ref x96), .val (.int (Int32.ofNat a)), .val (.int (Int32.ofNat b)), .val (.ref x139), .val (.int (Int32.ofNat (ρ2 a))), .val (.int (Int32.ofNat (ρ2 b))), .val (.ref x248), .unset, .unset, .unset] [(.int (Int32.ofNat (ρ3 3))), (.int (3 : Int32)), (.ref x248)]
  refine w289.ist Y297 (i := 3) rfl (by simp) Y264 (dc.g 122 rfl) ?_
  intro T299 h301 w300 W302 F303
  show Go κ _ T299 198 #[.val (.int p0), .val (.int p1), .val (.int p2), .val (.int p3), .val (.ref x96), .val (.int (Int32.ofNat a)), .val (.int (Int32.ofNat b)), .val (.ref x139), .val (.int (Int32.ofNat (ρ2 a))), .val (.int (Int32.ofNat (ρ2 b))), .val (.ref x248), .unset, .unset, .unset] []
  obtain ⟨slW302, vvW302, WW302⟩ := W302
  have Y304 := (Y293).wr WW302
  have Y305 := (Y294).other WW302 (Or.inl (Ne.symm Y259))
  have Y306 := (Y295).other WW302 (Ne.symm Y260)
  have Y307 := (Y296).other WW302 Y262
  have Y308 : Ary Z h301 x248 .int [(Int32.ofNat (ρ3 0)), (Int32.ofNat (ρ3 1)), (Int32.ofNat (ρ3 2)), (Int32.ofNat (ρ3 3))] := F303
  refine blk (pc' := 204) (Ls' := #[.val (.int p0), .val (.int p1), .val (.int p2), .val (.int p3), .val (.ref x96), .val (.int (Int32.ofNat a)), .val (.int (Int32.ofNat b)), .val (.ref x139), .val (.int (Int32.ofNat (ρ2 a))), .val (.int (Int32.ofNat (ρ2 b))), .val (.ref x248), .unset, .unset, .unset]) (st' := [(.int (Int32.ofNat b)), (.int (Int32.ofNat a)), (.ref x96)]) [oAload w300.ok (dc.g 123 rfl), oIload w300.ok (dc.g 124 rfl), oIload w300.ok (dc.g 125 rfl)] rfl ?_
  refine w300.callV (wd hw 28 rfl) (wd hw 29 rfl) (notFace (wd hw 31 rfl)) (wd hw 31 rfl) (wd hw 30 rfl) (by decide) (a := x96) Y304 (argsL := [(.int (Int32.ofNat a)), (.int (Int32.ofNat b))]) (Wd := 0) (Ctr.pays (len := 3) (Wd := 0) (c_join l Z a0 hw hEL (i := a) (j := b) Y304 Y305 Y306 R231 (by decide) (by omega) (by omega) hA0) w300 (wd hw 32 rfl) (wd hw 2 rfl) hEL (by decide) (by decide) sfNil) pd4 rfl (st := []) rfl rfl (Nat.le_of_eq rfl) (dc.g 126 rfl) (by decide) (by decide) ?_
  intro vm309 T310 h311 v312 w313 C314 Q315
  obtain ⟨rfl, qs316, K317, F318, R319⟩ := Q315
  show Go κ _ T310 207 #[.val (.int p0), .val (.int p1), .val (.int p2), .val (.int p3), .val (.ref x96), .val (.int (Int32.ofNat a)), .val (.int (Int32.ofNat b)), .val (.ref x139), .val (.int (Int32.ofNat (ρ2 a))), .val (.int (Int32.ofNat (ρ2 b))), .val (.ref x248), .unset, .unset, .unset] []
  have Y320 := (Y304).keep K317
  have Y321 := (Y305).keep K317 (ninS hdA nin0)
  have Y322 := (Y307).keep K317 (ninS Y149 nin0)
  have Y323 := (Y308).keep K317 (ninS Y260 nin0)
  have S3 : Rep qs316 ρ3 4 := by have q := R319; rwa [show (fun x => if ρ2 x = ρ2 a then ρ2 b else ρ2 x) = ρ3 from funext fun x => (hρ3 x).symm] at q
  refine blk (pc' := 208) (Ls' := #[.val (.int p0), .val (.int p1), .val (.int p2), .val (.int p3), .val (.ref x96), .val (.int (Int32.ofNat a)), .val (.int (Int32.ofNat b)), .val (.ref x139), .val (.int (Int32.ofNat (ρ2 a))), .val (.int (Int32.ofNat (ρ2 b))), .val (.ref x248), .unset, .unset, .unset]) (st' := [(.int (4 : Int32))]) [oIconst w313.ok (dc.g 127 rfl)] rfl ?_
  have Y324 := (w313.old ozs).1
  refine w313.newarr (aty := .int) (wd hw 9 rfl) (dc.g 128 rfl) (c := 4) (by decide) (by decide) (cap := 4) (by first | decide | omega) (by first | decide | omega) (by decide) (by decide) rfl rfl ?_
  intro T325 h327 x328 w326 g329 E330 F331 S332
  show Go κ _ T325 210 #[.val (.int p0), .val (.int p1), .val (.int p2), .val (.int p3), .val (.ref x96), .val (.int (Int32.ofNat a)), .val (.int (Int32.ofNat b)), .val (.ref x139), .val (.int (Int32.ofNat (ρ2 a))), .val (.int (Int32.ofNat (ρ2 b))), .val (.ref x248), .unset, .unset, .unset] [(.ref x328)]
  have Y333 := (F318).lt
  have Y334 := (Y322).lt
  have Y335 := (Y323).lt
  have Y336 := (Y320).ext E330
  have Y337 := (Y321).ext E330
  have Y338 := (F318).ext E330
  have Y339 := (Y322).ext E330
  have Y340 := (Y323).ext E330
  have Y341 := F331.ne_exa Y336 (wd hw 1 rfl)
  have Y342 : x328 ≠ A := by rw [g329]; exact Nat.ne_of_gt Y333
  have Y343 : x328 ≠ x139 := by rw [g329]; exact Nat.ne_of_gt Y334
  have Y344 := Ne.symm Y343
  have Y345 : x328 ≠ x248 := by rw [g329]; exact Nat.ne_of_gt Y335
  have Y346 := Ne.symm Y345
  have Y347 : Ary Z h327 x328 .int [0, 0, 0, 0] := F331
  have Y348 : Z.heap.size ≤ x328 := by rw [g329]; exact Y324
  refine blk (pc' := 218) (Ls' := #[.val (.int p0), .val (.int p1), .val (.int p2), .val (.int p3), .val (.ref x96), .val (.int (Int32.ofNat a)), .val (.int (Int32.ofNat b)), .val (.ref x139), .val (.int (Int32.ofNat (ρ2 a))), .val (.int (Int32.ofNat (ρ2 b))), .val (.ref x248), .val (.ref x328), .unset, .unset]) (st' := [(.int (0 : Int32)), (.ref x96), (.int (0 : Int32)), (.ref x328)]) [oAstore w326.ok (dc.g 129 rfl), oAload w326.ok (dc.g 130 rfl), oIconst w326.ok (dc.g 131 rfl), oAload w326.ok (dc.g 132 rfl), oIconst w326.ok (dc.g 133 rfl)] rfl ?_
  show Go κ _ T325 218 #[.val (.int p0), .val (.int p1), .val (.int p2), .val (.int p3), .val (.ref x96), .val (.int (Int32.ofNat a)), .val (.int (Int32.ofNat b)), .val (.ref x139), .val (.int (Int32.ofNat (ρ2 a))), .val (.int (Int32.ofNat (ρ2 b))), .val (.ref x248), .val (.ref x328), .unset, .unset] [(.int (Int32.ofNat 0)), (.ref x96), (.int (0 : Int32)), (.ref x328)]
  refine w326.callV (wd hw 38 rfl) (wd hw 34 rfl) (notFace (wd hw 36 rfl)) (wd hw 36 rfl) (wd hw 35 rfl) (by decide) (a := x96) Y336 (argsL := [(.int (Int32.ofNat 0))]) (Wd := 2) (Ctr.pays (len := 3) (Wd := 2) (c_root l Z a0 hw hEL (x := 0) Y336 Y337 Y338 S3 (by decide) (by decide) hA0) w326 (wd hw 37 rfl) (wd hw 2 rfl) hEL (by decide) (by decide) sfNil) pd1 rfl (st := [(.int (0 : Int32)), (.ref x328)]) rfl rfl (Nat.le_of_eq rfl) (dc.g 134 rfl) (by decide) (by decide) ?_
  intro vm349 T350 h351 v352 w353 C354 Q355
  obtain ⟨qs356, rfl, K357, F358, R359⟩ := Q355
  show Go κ _ T350 221 #[.val (.int p0), .val (.int p1), .val (.int p2), .val (.int p3), .val (.ref x96), .val (.int (Int32.ofNat a)), .val (.int (Int32.ofNat b)), .val (.ref x139), .val (.int (Int32.ofNat (ρ2 a))), .val (.int (Int32.ofNat (ρ2 b))), .val (.ref x248), .val (.ref x328), .unset, .unset] [(.int (Int32.ofNat (ρ3 0))), (.int (0 : Int32)), (.ref x328)]
  have Y360 := (Y336).keep K357
  have Y361 := (Y337).keep K357 (ninS hdA nin0)
  have Y362 := (Y339).keep K357 (ninS Y149 nin0)
  have Y363 := (Y340).keep K357 (ninS Y260 nin0)
  have Y364 := (Y347).keep K357 (ninS Y342 nin0)
  refine w353.ist Y364 (i := 0) rfl (by simp) Y348 (dc.g 135 rfl) ?_
  intro T365 h367 w366 W368 F369
  show Go κ _ T365 222 #[.val (.int p0), .val (.int p1), .val (.int p2), .val (.int p3), .val (.ref x96), .val (.int (Int32.ofNat a)), .val (.int (Int32.ofNat b)), .val (.ref x139), .val (.int (Int32.ofNat (ρ2 a))), .val (.int (Int32.ofNat (ρ2 b))), .val (.ref x248), .val (.ref x328), .unset, .unset] []
  obtain ⟨slW368, vvW368, WW368⟩ := W368
  have Y370 := (Y360).wr WW368
  have Y371 := (Y361).other WW368 (Or.inl (Ne.symm Y341))
  have Y372 := (F358).other WW368 (Ne.symm Y342)
  have Y373 := (Y362).other WW368 Y344
  have Y374 := (Y363).other WW368 Y346
  have Y375 : Ary Z h367 x328 .int [(Int32.ofNat (ρ3 0)), 0, 0, 0] := F369
  refine blk (pc' := 228) (Ls' := #[.val (.int p0), .val (.int p1), .val (.int p2), .val (.int p3), .val (.ref x96), .val (.int (Int32.ofNat a)), .val (.int (Int32.ofNat b)), .val (.ref x139), .val (.int (Int32.ofNat (ρ2 a))), .val (.int (Int32.ofNat (ρ2 b))), .val (.ref x248), .val (.ref x328), .unset, .unset]) (st' := [(.int (1 : Int32)), (.ref x96), (.int (1 : Int32)), (.ref x328)]) [oAload w366.ok (dc.g 136 rfl), oIconst w366.ok (dc.g 137 rfl), oAload w366.ok (dc.g 138 rfl), oIconst w366.ok (dc.g 139 rfl)] rfl ?_
  show Go κ _ T365 228 #[.val (.int p0), .val (.int p1), .val (.int p2), .val (.int p3), .val (.ref x96), .val (.int (Int32.ofNat a)), .val (.int (Int32.ofNat b)), .val (.ref x139), .val (.int (Int32.ofNat (ρ2 a))), .val (.int (Int32.ofNat (ρ2 b))), .val (.ref x248), .val (.ref x328), .unset, .unset] [(.int (Int32.ofNat 1)), (.ref x96), (.int (1 : Int32)), (.ref x328)]
  refine w366.callV (wd hw 38 rfl) (wd hw 34 rfl) (notFace (wd hw 36 rfl)) (wd hw 36 rfl) (wd hw 35 rfl) (by decide) (a := x96) Y370 (argsL := [(.int (Int32.ofNat 1))]) (Wd := 2) (Ctr.pays (len := 3) (Wd := 2) (c_root l Z a0 hw hEL (x := 1) Y370 Y371 Y372 R359 (by decide) (by decide) hA0) w366 (wd hw 37 rfl) (wd hw 2 rfl) hEL (by decide) (by decide) sfNil) pd1 rfl (st := [(.int (1 : Int32)), (.ref x328)]) rfl rfl (Nat.le_of_eq rfl) (dc.g 140 rfl) (by decide) (by decide) ?_
  intro vm376 T377 h378 v379 w380 C381 Q382
  obtain ⟨qs383, rfl, K384, F385, R386⟩ := Q382
  show Go κ _ T377 231 #[.val (.int p0), .val (.int p1), .val (.int p2), .val (.int p3), .val (.ref x96), .val (.int (Int32.ofNat a)), .val (.int (Int32.ofNat b)), .val (.ref x139), .val (.int (Int32.ofNat (ρ2 a))), .val (.int (Int32.ofNat (ρ2 b))), .val (.ref x248), .val (.ref x328), .unset, .unset] [(.int (Int32.ofNat (ρ3 1))), (.int (1 : Int32)), (.ref x328)]
  have Y387 := (Y370).keep K384
  have Y388 := (Y371).keep K384 (ninS hdA nin0)
  have Y389 := (Y373).keep K384 (ninS Y149 nin0)
  have Y390 := (Y374).keep K384 (ninS Y260 nin0)
  have Y391 := (Y375).keep K384 (ninS Y342 nin0)
  refine w380.ist Y391 (i := 1) rfl (by simp) Y348 (dc.g 141 rfl) ?_
  intro T392 h394 w393 W395 F396
  show Go κ _ T392 232 #[.val (.int p0), .val (.int p1), .val (.int p2), .val (.int p3), .val (.ref x96), .val (.int (Int32.ofNat a)), .val (.int (Int32.ofNat b)), .val (.ref x139), .val (.int (Int32.ofNat (ρ2 a))), .val (.int (Int32.ofNat (ρ2 b))), .val (.ref x248), .val (.ref x328), .unset, .unset] []
  obtain ⟨slW395, vvW395, WW395⟩ := W395
  have Y397 := (Y387).wr WW395
  have Y398 := (Y388).other WW395 (Or.inl (Ne.symm Y341))
  have Y399 := (F385).other WW395 (Ne.symm Y342)
  have Y400 := (Y389).other WW395 Y344
  have Y401 := (Y390).other WW395 Y346
  have Y402 : Ary Z h394 x328 .int [(Int32.ofNat (ρ3 0)), (Int32.ofNat (ρ3 1)), 0, 0] := F396
  refine blk (pc' := 238) (Ls' := #[.val (.int p0), .val (.int p1), .val (.int p2), .val (.int p3), .val (.ref x96), .val (.int (Int32.ofNat a)), .val (.int (Int32.ofNat b)), .val (.ref x139), .val (.int (Int32.ofNat (ρ2 a))), .val (.int (Int32.ofNat (ρ2 b))), .val (.ref x248), .val (.ref x328), .unset, .unset]) (st' := [(.int (2 : Int32)), (.ref x96), (.int (2 : Int32)), (.ref x328)]) [oAload w393.ok (dc.g 142 rfl), oIconst w393.ok (dc.g 143 rfl), oAload w393.ok (dc.g 144 rfl), oIconst w393.ok (dc.g 145 rfl)] rfl ?_
  show Go κ _ T392 238 #[.val (.int p0), .val (.int p1), .val (.int p2), .val (.int p3), .val (.ref x96), .val (.int (Int32.ofNat a)), .val (.int (Int32.ofNat b)), .val (.ref x139), .val (.int (Int32.ofNat (ρ2 a))), .val (.int (Int32.ofNat (ρ2 b))), .val (.ref x248), .val (.ref x328), .unset, .unset] [(.int (Int32.ofNat 2)), (.ref x96), (.int (2 : Int32)), (.ref x328)]
  refine w393.callV (wd hw 38 rfl) (wd hw 34 rfl) (notFace (wd hw 36 rfl)) (wd hw 36 rfl) (wd hw 35 rfl) (by decide) (a := x96) Y397 (argsL := [(.int (Int32.ofNat 2))]) (Wd := 2) (Ctr.pays (len := 3) (Wd := 2) (c_root l Z a0 hw hEL (x := 2) Y397 Y398 Y399 R386 (by decide) (by decide) hA0) w393 (wd hw 37 rfl) (wd hw 2 rfl) hEL (by decide) (by decide) sfNil) pd1 rfl (st := [(.int (2 : Int32)), (.ref x328)]) rfl rfl (Nat.le_of_eq rfl) (dc.g 146 rfl) (by decide) (by decide) ?_
  intro vm403 T404 h405 v406 w407 C408 Q409
  obtain ⟨qs410, rfl, K411, F412, R413⟩ := Q409
  show Go κ _ T404 241 #[.val (.int p0), .val (.int p1), .val (.int p2), .val (.int p3), .val (.ref x96), .val (.int (Int32.ofNat a)), .val (.int (Int32.ofNat b)), .val (.ref x139), .val (.int (Int32.ofNat (ρ2 a))), .val (.int (Int32.ofNat (ρ2 b))), .val (.ref x248), .val (.ref x328), .unset, .unset] [(.int (Int32.ofNat (ρ3 2))), (.int (2 : Int32)), (.ref x328)]
  have Y414 := (Y397).keep K411
  have Y415 := (Y398).keep K411 (ninS hdA nin0)
  have Y416 := (Y400).keep K411 (ninS Y149 nin0)
  have Y417 := (Y401).keep K411 (ninS Y260 nin0)
  have Y418 := (Y402).keep K411 (ninS Y342 nin0)
  refine w407.ist Y418 (i := 2) rfl (by simp) Y348 (dc.g 147 rfl) ?_
  intro T419 h421 w420 W422 F423
  show Go κ _ T419 242 #[.val (.int p0), .val (.int p1), .val (.int p2), .val (.int p3), .val (.ref x96), .val (.int (Int32.ofNat a)), .val (.int (Int32.ofNat b)), .val (.ref x139), .val (.int (Int32.ofNat (ρ2 a))), .val (.int (Int32.ofNat (ρ2 b))), .val (.ref x248), .val (.ref x328), .unset, .unset] []
  obtain ⟨slW422, vvW422, WW422⟩ := W422
  have Y424 := (Y414).wr WW422
  have Y425 := (Y415).other WW422 (Or.inl (Ne.symm Y341))
  have Y426 := (F412).other WW422 (Ne.symm Y342)
  have Y427 := (Y416).other WW422 Y344
  have Y428 := (Y417).other WW422 Y346
  have Y429 : Ary Z h421 x328 .int [(Int32.ofNat (ρ3 0)), (Int32.ofNat (ρ3 1)), (Int32.ofNat (ρ3 2)), 0] := F423
  refine blk (pc' := 248) (Ls' := #[.val (.int p0), .val (.int p1), .val (.int p2), .val (.int p3), .val (.ref x96), .val (.int (Int32.ofNat a)), .val (.int (Int32.ofNat b)), .val (.ref x139), .val (.int (Int32.ofNat (ρ2 a))), .val (.int (Int32.ofNat (ρ2 b))), .val (.ref x248), .val (.ref x328), .unset, .unset]) (st' := [(.int (3 : Int32)), (.ref x96), (.int (3 : Int32)), (.ref x328)]) [oAload w420.ok (dc.g 148 rfl), oIconst w420.ok (dc.g 149 rfl), oAload w420.ok (dc.g 150 rfl), oIconst w420.ok (dc.g 151 rfl)] rfl ?_
  show Go κ _ T419 248 #[.val (.int p0), .val (.int p1), .val (.int p2), .val (.int p3), .val (.ref x96), .val (.int (Int32.ofNat a)), .val (.int (Int32.ofNat b)), .val (.ref x139), .val (.int (Int32.ofNat (ρ2 a))), .val (.int (Int32.ofNat (ρ2 b))), .val (.ref x248), .val (.ref x328), .unset, .unset] [(.int (Int32.ofNat 3)), (.ref x96), (.int (3 : Int32)), (.ref x328)]
  refine w420.callV (wd hw 38 rfl) (wd hw 34 rfl) (notFace (wd hw 36 rfl)) (wd hw 36 rfl) (wd hw 35 rfl) (by decide) (a := x96) Y424 (argsL := [(.int (Int32.ofNat 3))]) (Wd := 2) (Ctr.pays (len := 3) (Wd := 2) (c_root l Z a0 hw hEL (x := 3) Y424 Y425 Y426 R413 (by decide) (by decide) hA0) w420 (wd hw 37 rfl) (wd hw 2 rfl) hEL (by decide) (by decide) sfNil) pd1 rfl (st := [(.int (3 : Int32)), (.ref x328)]) rfl rfl (Nat.le_of_eq rfl) (dc.g 152 rfl) (by decide) (by decide) ?_
  intro vm430 T431 h432 v433 w434 C435 Q436
  obtain ⟨qs437, rfl, K438, F439, R440⟩ := Q436
  show Go κ _ T431 251 #[.val (.int p0), .val (.int p1), .val (.int p2), .val (.int p3), .val (.ref x96), .val (.int (Int32.ofNat a)), .val (.int (Int32.ofNat b)), .val (.ref x139), .val (.int (Int32.ofNat (ρ2 a))), .val (.int (Int32.ofNat (ρ2 b))), .val (.ref x248), .val (.ref x328), .unset, .unset] [(.int (Int32.ofNat (ρ3 3))), (.int (3 : Int32)), (.ref x328)]
  have Y441 := (Y424).keep K438
  have Y442 := (Y425).keep K438 (ninS hdA nin0)
  have Y443 := (Y427).keep K438 (ninS Y149 nin0)
  have Y444 := (Y428).keep K438 (ninS Y260 nin0)
  have Y445 := (Y429).keep K438 (ninS Y342 nin0)
  refine w434.ist Y445 (i := 3) rfl (by simp) Y348 (dc.g 153 rfl) ?_
  intro T446 h448 w447 W449 F450
  show Go κ _ T446 252 #[.val (.int p0), .val (.int p1), .val (.int p2), .val (.int p3), .val (.ref x96), .val (.int (Int32.ofNat a)), .val (.int (Int32.ofNat b)), .val (.ref x139), .val (.int (Int32.ofNat (ρ2 a))), .val (.int (Int32.ofNat (ρ2 b))), .val (.ref x248), .val (.ref x328), .unset, .unset] []
  obtain ⟨slW449, vvW449, WW449⟩ := W449
  have Y451 := (Y441).wr WW449
  have Y452 := (Y442).other WW449 (Or.inl (Ne.symm Y341))
  have Y453 := (F439).other WW449 (Ne.symm Y342)
  have Y454 := (Y443).other WW449 Y344
  have Y455 := (Y444).other WW449 Y346
  have Y456 : Ary Z h448 x328 .int [(Int32.ofNat (ρ3 0)), (Int32.ofNat (ρ3 1)), (Int32.ofNat (ρ3 2)), (Int32.ofNat (ρ3 3))] := F450
  have hc : ∀ j, j < 4 → ([(Int32.ofNat (ρ3 0)), (Int32.ofNat (ρ3 1)), (Int32.ofNat (ρ3 2)), (Int32.ofNat (ρ3 3))] : List Int32)[j]? = some (Int32.ofNat (ρ3 j)) := by
    intro j hj
    obtain rfl | rfl | rfl | rfl : j = 0 ∨ j = 1 ∨ j = 2 ∨ j = 3 := by omega
    all_goals rfl
  have hs0 := S3.lt (x := 0) (by decide)
  refine blk (pc' := 255) (Ls' := #[.val (.int p0), .val (.int p1), .val (.int p2), .val (.int p3), .val (.ref x96), .val (.int (Int32.ofNat a)), .val (.int (Int32.ofNat b)), .val (.ref x139), .val (.int (Int32.ofNat (ρ2 a))), .val (.int (Int32.ofNat (ρ2 b))), .val (.ref x248), .val (.ref x328), .unset, .unset]) (st' := [(.int (0 : Int32)), (.ref x328)]) [oAload w447.ok (dc.g 154 rfl), oIconst w447.ok (dc.g 155 rfl)] rfl ?_
  refine w447.ild Y456 (i := 0) rfl (hc 0 (by decide)) (dc.g 156 rfl) ?_
  show Go κ _ T446 256 #[.val (.int p0), .val (.int p1), .val (.int p2), .val (.int p3), .val (.ref x96), .val (.int (Int32.ofNat a)), .val (.int (Int32.ofNat b)), .val (.ref x139), .val (.int (Int32.ofNat (ρ2 a))), .val (.int (Int32.ofNat (ρ2 b))), .val (.ref x248), .val (.ref x328), .unset, .unset] [(.int (Int32.ofNat (ρ3 0)))]
  refine w447.callS (wd hw 39 rfl) (wd hw 40 rfl) (wd hw 41 rfl) (wd hw 42 rfl) (by decide) (argsL := [(.int (Int32.ofNat (ρ3 0)))]) (Wd := 0) (Ctr.pays (len := 3) (Wd := 0) (c_rng l Z a0 hw hEL hs0) w447 (wd hw 42 rfl) (wd hw 41 rfl) hEL (by decide) (by decide) sfNil) pd5 rfl (st := []) rfl rfl (Nat.le_of_eq rfl) (dc.g 157 rfl) (by decide) (by decide) ?_
  intro vm457 T458 h459 v460 w461 C462 Q463
  obtain ⟨eQ463, rfl⟩ := Q463
  subst eQ463
  show Go κ _ T458 259 #[.val (.int p0), .val (.int p1), .val (.int p2), .val (.int p3), .val (.ref x96), .val (.int (Int32.ofNat a)), .val (.int (Int32.ofNat b)), .val (.ref x139), .val (.int (Int32.ofNat (ρ2 a))), .val (.int (Int32.ofNat (ρ2 b))), .val (.ref x248), .val (.ref x328), .unset, .unset] [(.int (1 : Int32))]
  refine zEq (pc' := 292) w461.ok (dc.g 158 rfl) (by decide) (by decide) (fun hc464 => absurd hc464 (by decide)) (fun hc464 => ?_)
  show Go κ _ T458 262 #[.val (.int p0), .val (.int p1), .val (.int p2), .val (.int p3), .val (.ref x96), .val (.int (Int32.ofNat a)), .val (.int (Int32.ofNat b)), .val (.ref x139), .val (.int (Int32.ofNat (ρ2 a))), .val (.int (Int32.ofNat (ρ2 b))), .val (.ref x248), .val (.ref x328), .unset, .unset] []
  have hs1 := S3.lt (x := 1) (by decide)
  refine blk (pc' := 265) (Ls' := #[.val (.int p0), .val (.int p1), .val (.int p2), .val (.int p3), .val (.ref x96), .val (.int (Int32.ofNat a)), .val (.int (Int32.ofNat b)), .val (.ref x139), .val (.int (Int32.ofNat (ρ2 a))), .val (.int (Int32.ofNat (ρ2 b))), .val (.ref x248), .val (.ref x328), .unset, .unset]) (st' := [(.int (1 : Int32)), (.ref x328)]) [oAload w461.ok (dc.g 159 rfl), oIconst w461.ok (dc.g 160 rfl)] rfl ?_
  refine w461.ild Y456 (i := 1) rfl (hc 1 (by decide)) (dc.g 161 rfl) ?_
  show Go κ _ T458 266 #[.val (.int p0), .val (.int p1), .val (.int p2), .val (.int p3), .val (.ref x96), .val (.int (Int32.ofNat a)), .val (.int (Int32.ofNat b)), .val (.ref x139), .val (.int (Int32.ofNat (ρ2 a))), .val (.int (Int32.ofNat (ρ2 b))), .val (.ref x248), .val (.ref x328), .unset, .unset] [(.int (Int32.ofNat (ρ3 1)))]
  refine w461.callS (wd hw 39 rfl) (wd hw 40 rfl) (wd hw 41 rfl) (wd hw 42 rfl) (by decide) (argsL := [(.int (Int32.ofNat (ρ3 1)))]) (Wd := 0) (Ctr.pays (len := 3) (Wd := 0) (c_rng l Z a0 hw hEL hs1) w461 (wd hw 42 rfl) (wd hw 41 rfl) hEL (by decide) (by decide) sfNil) pd5 rfl (st := []) rfl rfl (Nat.le_of_eq rfl) (dc.g 162 rfl) (by decide) (by decide) ?_
  intro vm465 T466 h467 v468 w469 C470 Q471
  obtain ⟨eQ471, rfl⟩ := Q471
  subst eQ471
  show Go κ _ T466 269 #[.val (.int p0), .val (.int p1), .val (.int p2), .val (.int p3), .val (.ref x96), .val (.int (Int32.ofNat a)), .val (.int (Int32.ofNat b)), .val (.ref x139), .val (.int (Int32.ofNat (ρ2 a))), .val (.int (Int32.ofNat (ρ2 b))), .val (.ref x248), .val (.ref x328), .unset, .unset] [(.int (1 : Int32))]
  refine zEq (pc' := 292) w469.ok (dc.g 163 rfl) (by decide) (by decide) (fun hc472 => absurd hc472 (by decide)) (fun hc472 => ?_)
  show Go κ _ T466 272 #[.val (.int p0), .val (.int p1), .val (.int p2), .val (.int p3), .val (.ref x96), .val (.int (Int32.ofNat a)), .val (.int (Int32.ofNat b)), .val (.ref x139), .val (.int (Int32.ofNat (ρ2 a))), .val (.int (Int32.ofNat (ρ2 b))), .val (.ref x248), .val (.ref x328), .unset, .unset] []
  have hs2 := S3.lt (x := 2) (by decide)
  refine blk (pc' := 275) (Ls' := #[.val (.int p0), .val (.int p1), .val (.int p2), .val (.int p3), .val (.ref x96), .val (.int (Int32.ofNat a)), .val (.int (Int32.ofNat b)), .val (.ref x139), .val (.int (Int32.ofNat (ρ2 a))), .val (.int (Int32.ofNat (ρ2 b))), .val (.ref x248), .val (.ref x328), .unset, .unset]) (st' := [(.int (2 : Int32)), (.ref x328)]) [oAload w469.ok (dc.g 164 rfl), oIconst w469.ok (dc.g 165 rfl)] rfl ?_
  refine w469.ild Y456 (i := 2) rfl (hc 2 (by decide)) (dc.g 166 rfl) ?_
  show Go κ _ T466 276 #[.val (.int p0), .val (.int p1), .val (.int p2), .val (.int p3), .val (.ref x96), .val (.int (Int32.ofNat a)), .val (.int (Int32.ofNat b)), .val (.ref x139), .val (.int (Int32.ofNat (ρ2 a))), .val (.int (Int32.ofNat (ρ2 b))), .val (.ref x248), .val (.ref x328), .unset, .unset] [(.int (Int32.ofNat (ρ3 2)))]
  refine w469.callS (wd hw 39 rfl) (wd hw 40 rfl) (wd hw 41 rfl) (wd hw 42 rfl) (by decide) (argsL := [(.int (Int32.ofNat (ρ3 2)))]) (Wd := 0) (Ctr.pays (len := 3) (Wd := 0) (c_rng l Z a0 hw hEL hs2) w469 (wd hw 42 rfl) (wd hw 41 rfl) hEL (by decide) (by decide) sfNil) pd5 rfl (st := []) rfl rfl (Nat.le_of_eq rfl) (dc.g 167 rfl) (by decide) (by decide) ?_
  intro vm473 T474 h475 v476 w477 C478 Q479
  obtain ⟨eQ479, rfl⟩ := Q479
  subst eQ479
  show Go κ _ T474 279 #[.val (.int p0), .val (.int p1), .val (.int p2), .val (.int p3), .val (.ref x96), .val (.int (Int32.ofNat a)), .val (.int (Int32.ofNat b)), .val (.ref x139), .val (.int (Int32.ofNat (ρ2 a))), .val (.int (Int32.ofNat (ρ2 b))), .val (.ref x248), .val (.ref x328), .unset, .unset] [(.int (1 : Int32))]
  refine zEq (pc' := 292) w477.ok (dc.g 168 rfl) (by decide) (by decide) (fun hc480 => absurd hc480 (by decide)) (fun hc480 => ?_)
  show Go κ _ T474 282 #[.val (.int p0), .val (.int p1), .val (.int p2), .val (.int p3), .val (.ref x96), .val (.int (Int32.ofNat a)), .val (.int (Int32.ofNat b)), .val (.ref x139), .val (.int (Int32.ofNat (ρ2 a))), .val (.int (Int32.ofNat (ρ2 b))), .val (.ref x248), .val (.ref x328), .unset, .unset] []
  have hs3 := S3.lt (x := 3) (by decide)
  refine blk (pc' := 285) (Ls' := #[.val (.int p0), .val (.int p1), .val (.int p2), .val (.int p3), .val (.ref x96), .val (.int (Int32.ofNat a)), .val (.int (Int32.ofNat b)), .val (.ref x139), .val (.int (Int32.ofNat (ρ2 a))), .val (.int (Int32.ofNat (ρ2 b))), .val (.ref x248), .val (.ref x328), .unset, .unset]) (st' := [(.int (3 : Int32)), (.ref x328)]) [oAload w477.ok (dc.g 169 rfl), oIconst w477.ok (dc.g 170 rfl)] rfl ?_
  refine w477.ild Y456 (i := 3) rfl (hc 3 (by decide)) (dc.g 171 rfl) ?_
  show Go κ _ T474 286 #[.val (.int p0), .val (.int p1), .val (.int p2), .val (.int p3), .val (.ref x96), .val (.int (Int32.ofNat a)), .val (.int (Int32.ofNat b)), .val (.ref x139), .val (.int (Int32.ofNat (ρ2 a))), .val (.int (Int32.ofNat (ρ2 b))), .val (.ref x248), .val (.ref x328), .unset, .unset] [(.int (Int32.ofNat (ρ3 3)))]
  refine w477.callS (wd hw 39 rfl) (wd hw 40 rfl) (wd hw 41 rfl) (wd hw 42 rfl) (by decide) (argsL := [(.int (Int32.ofNat (ρ3 3)))]) (Wd := 0) (Ctr.pays (len := 3) (Wd := 0) (c_rng l Z a0 hw hEL hs3) w477 (wd hw 42 rfl) (wd hw 41 rfl) hEL (by decide) (by decide) sfNil) pd5 rfl (st := []) rfl rfl (Nat.le_of_eq rfl) (dc.g 172 rfl) (by decide) (by decide) ?_
  intro vm481 T482 h483 v484 w485 C486 Q487
  obtain ⟨eQ487, rfl⟩ := Q487
  subst eQ487
  show Go κ _ T482 289 #[.val (.int p0), .val (.int p1), .val (.int p2), .val (.int p3), .val (.ref x96), .val (.int (Int32.ofNat a)), .val (.int (Int32.ofNat b)), .val (.ref x139), .val (.int (Int32.ofNat (ρ2 a))), .val (.int (Int32.ofNat (ρ2 b))), .val (.ref x248), .val (.ref x328), .unset, .unset] [(.int (1 : Int32))]
  refine zNe (pc' := 294) w485.ok (dc.g 173 rfl) (by decide) (by decide) (fun hc488 => ?_) (fun hc488 => absurd hc488 (by decide))
  show Go κ _ T482 294 #[.val (.int p0), .val (.int p1), .val (.int p2), .val (.int p3), .val (.ref x96), .val (.int (Int32.ofNat a)), .val (.int (Int32.ofNat b)), .val (.ref x139), .val (.int (Int32.ofNat (ρ2 a))), .val (.int (Int32.ofNat (ρ2 b))), .val (.ref x248), .val (.ref x328), .unset, .unset] []
  refine blk (pc' := 300) (Ls' := #[.val (.int p0), .val (.int p1), .val (.int p2), .val (.int p3), .val (.ref x96), .val (.int (Int32.ofNat a)), .val (.int (Int32.ofNat b)), .val (.ref x139), .val (.int (Int32.ofNat (ρ2 a))), .val (.int (Int32.ofNat (ρ2 b))), .val (.ref x248), .val (.ref x328), .unset, .unset]) (st' := [(.int (1 : Int32)), (.int (0 : Int32)), (.ref x248), (.ref x328)]) [oAload w485.ok (dc.g 176 rfl), oAload w485.ok (dc.g 177 rfl), oIconst w485.ok (dc.g 178 rfl), oIconst w485.ok (dc.g 179 rfl)] rfl ?_
  show Go κ _ T482 300 #[.val (.int p0), .val (.int p1), .val (.int p2), .val (.int p3), .val (.ref x96), .val (.int (Int32.ofNat a)), .val (.int (Int32.ofNat b)), .val (.ref x139), .val (.int (Int32.ofNat (ρ2 a))), .val (.int (Int32.ofNat (ρ2 b))), .val (.ref x248), .val (.ref x328), .unset, .unset] [(.int (Int32.ofNat 1)), (.int (Int32.ofNat 0)), (.ref x248), (.ref x328)]
  refine w485.callS (wd hw 43 rfl) (wd hw 44 rfl) (wd hw 41 rfl) (wd hw 45 rfl) (by decide) (argsL := [(.ref x328), (.ref x248), (.int (Int32.ofNat 0)), (.int (Int32.ofNat 1))]) (Wd := 0) (Ctr.pays (len := 3) (Wd := 0) (c_sp l Z a0 hw hEL Y456 Y455 (hc 0 (by decide)) (hc 1 (by decide))) w485 (wd hw 45 rfl) (wd hw 41 rfl) hEL (by decide) (by decide) sfNil) pd6 rfl (st := []) rfl rfl (Nat.le_of_eq rfl) (dc.g 180 rfl) (by decide) (by decide) ?_
  intro vm489 T490 h491 v492 w493 C494 Q495
  obtain ⟨eQ495, rfl⟩ := Q495
  subst eQ495
  show Go κ _ T490 303 #[.val (.int p0), .val (.int p1), .val (.int p2), .val (.int p3), .val (.ref x96), .val (.int (Int32.ofNat a)), .val (.int (Int32.ofNat b)), .val (.ref x139), .val (.int (Int32.ofNat (ρ2 a))), .val (.int (Int32.ofNat (ρ2 b))), .val (.ref x248), .val (.ref x328), .unset, .unset] [(.int (1 : Int32))]
  refine zEq (pc' := 370) w493.ok (dc.g 181 rfl) (by decide) (by decide) (fun hc496 => absurd hc496 (by decide)) (fun hc496 => ?_)
  show Go κ _ T490 306 #[.val (.int p0), .val (.int p1), .val (.int p2), .val (.int p3), .val (.ref x96), .val (.int (Int32.ofNat a)), .val (.int (Int32.ofNat b)), .val (.ref x139), .val (.int (Int32.ofNat (ρ2 a))), .val (.int (Int32.ofNat (ρ2 b))), .val (.ref x248), .val (.ref x328), .unset, .unset] []
  refine blk (pc' := 312) (Ls' := #[.val (.int p0), .val (.int p1), .val (.int p2), .val (.int p3), .val (.ref x96), .val (.int (Int32.ofNat a)), .val (.int (Int32.ofNat b)), .val (.ref x139), .val (.int (Int32.ofNat (ρ2 a))), .val (.int (Int32.ofNat (ρ2 b))), .val (.ref x248), .val (.ref x328), .unset, .unset]) (st' := [(.int (2 : Int32)), (.int (0 : Int32)), (.ref x248), (.ref x328)]) [oAload w493.ok (dc.g 182 rfl), oAload w493.ok (dc.g 183 rfl), oIconst w493.ok (dc.g 184 rfl), oIconst w493.ok (dc.g 185 rfl)] rfl ?_
  show Go κ _ T490 312 #[.val (.int p0), .val (.int p1), .val (.int p2), .val (.int p3), .val (.ref x96), .val (.int (Int32.ofNat a)), .val (.int (Int32.ofNat b)), .val (.ref x139), .val (.int (Int32.ofNat (ρ2 a))), .val (.int (Int32.ofNat (ρ2 b))), .val (.ref x248), .val (.ref x328), .unset, .unset] [(.int (Int32.ofNat 2)), (.int (Int32.ofNat 0)), (.ref x248), (.ref x328)]
  refine w493.callS (wd hw 43 rfl) (wd hw 44 rfl) (wd hw 41 rfl) (wd hw 45 rfl) (by decide) (argsL := [(.ref x328), (.ref x248), (.int (Int32.ofNat 0)), (.int (Int32.ofNat 2))]) (Wd := 0) (Ctr.pays (len := 3) (Wd := 0) (c_sp l Z a0 hw hEL Y456 Y455 (hc 0 (by decide)) (hc 2 (by decide))) w493 (wd hw 45 rfl) (wd hw 41 rfl) hEL (by decide) (by decide) sfNil) pd6 rfl (st := []) rfl rfl (Nat.le_of_eq rfl) (dc.g 186 rfl) (by decide) (by decide) ?_
  intro vm497 T498 h499 v500 w501 C502 Q503
  obtain ⟨eQ503, rfl⟩ := Q503
  subst eQ503
  show Go κ _ T498 315 #[.val (.int p0), .val (.int p1), .val (.int p2), .val (.int p3), .val (.ref x96), .val (.int (Int32.ofNat a)), .val (.int (Int32.ofNat b)), .val (.ref x139), .val (.int (Int32.ofNat (ρ2 a))), .val (.int (Int32.ofNat (ρ2 b))), .val (.ref x248), .val (.ref x328), .unset, .unset] [(.int (1 : Int32))]
  refine zEq (pc' := 370) w501.ok (dc.g 187 rfl) (by decide) (by decide) (fun hc504 => absurd hc504 (by decide)) (fun hc504 => ?_)
  show Go κ _ T498 318 #[.val (.int p0), .val (.int p1), .val (.int p2), .val (.int p3), .val (.ref x96), .val (.int (Int32.ofNat a)), .val (.int (Int32.ofNat b)), .val (.ref x139), .val (.int (Int32.ofNat (ρ2 a))), .val (.int (Int32.ofNat (ρ2 b))), .val (.ref x248), .val (.ref x328), .unset, .unset] []
  refine blk (pc' := 324) (Ls' := #[.val (.int p0), .val (.int p1), .val (.int p2), .val (.int p3), .val (.ref x96), .val (.int (Int32.ofNat a)), .val (.int (Int32.ofNat b)), .val (.ref x139), .val (.int (Int32.ofNat (ρ2 a))), .val (.int (Int32.ofNat (ρ2 b))), .val (.ref x248), .val (.ref x328), .unset, .unset]) (st' := [(.int (3 : Int32)), (.int (0 : Int32)), (.ref x248), (.ref x328)]) [oAload w501.ok (dc.g 188 rfl), oAload w501.ok (dc.g 189 rfl), oIconst w501.ok (dc.g 190 rfl), oIconst w501.ok (dc.g 191 rfl)] rfl ?_
  show Go κ _ T498 324 #[.val (.int p0), .val (.int p1), .val (.int p2), .val (.int p3), .val (.ref x96), .val (.int (Int32.ofNat a)), .val (.int (Int32.ofNat b)), .val (.ref x139), .val (.int (Int32.ofNat (ρ2 a))), .val (.int (Int32.ofNat (ρ2 b))), .val (.ref x248), .val (.ref x328), .unset, .unset] [(.int (Int32.ofNat 3)), (.int (Int32.ofNat 0)), (.ref x248), (.ref x328)]
  refine w501.callS (wd hw 43 rfl) (wd hw 44 rfl) (wd hw 41 rfl) (wd hw 45 rfl) (by decide) (argsL := [(.ref x328), (.ref x248), (.int (Int32.ofNat 0)), (.int (Int32.ofNat 3))]) (Wd := 0) (Ctr.pays (len := 3) (Wd := 0) (c_sp l Z a0 hw hEL Y456 Y455 (hc 0 (by decide)) (hc 3 (by decide))) w501 (wd hw 45 rfl) (wd hw 41 rfl) hEL (by decide) (by decide) sfNil) pd6 rfl (st := []) rfl rfl (Nat.le_of_eq rfl) (dc.g 192 rfl) (by decide) (by decide) ?_
  intro vm505 T506 h507 v508 w509 C510 Q511
  obtain ⟨eQ511, rfl⟩ := Q511
  subst eQ511
  show Go κ _ T506 327 #[.val (.int p0), .val (.int p1), .val (.int p2), .val (.int p3), .val (.ref x96), .val (.int (Int32.ofNat a)), .val (.int (Int32.ofNat b)), .val (.ref x139), .val (.int (Int32.ofNat (ρ2 a))), .val (.int (Int32.ofNat (ρ2 b))), .val (.ref x248), .val (.ref x328), .unset, .unset] [(.int (1 : Int32))]
  refine zEq (pc' := 370) w509.ok (dc.g 193 rfl) (by decide) (by decide) (fun hc512 => absurd hc512 (by decide)) (fun hc512 => ?_)
  show Go κ _ T506 330 #[.val (.int p0), .val (.int p1), .val (.int p2), .val (.int p3), .val (.ref x96), .val (.int (Int32.ofNat a)), .val (.int (Int32.ofNat b)), .val (.ref x139), .val (.int (Int32.ofNat (ρ2 a))), .val (.int (Int32.ofNat (ρ2 b))), .val (.ref x248), .val (.ref x328), .unset, .unset] []
  refine blk (pc' := 336) (Ls' := #[.val (.int p0), .val (.int p1), .val (.int p2), .val (.int p3), .val (.ref x96), .val (.int (Int32.ofNat a)), .val (.int (Int32.ofNat b)), .val (.ref x139), .val (.int (Int32.ofNat (ρ2 a))), .val (.int (Int32.ofNat (ρ2 b))), .val (.ref x248), .val (.ref x328), .unset, .unset]) (st' := [(.int (2 : Int32)), (.int (1 : Int32)), (.ref x248), (.ref x328)]) [oAload w509.ok (dc.g 194 rfl), oAload w509.ok (dc.g 195 rfl), oIconst w509.ok (dc.g 196 rfl), oIconst w509.ok (dc.g 197 rfl)] rfl ?_
  show Go κ _ T506 336 #[.val (.int p0), .val (.int p1), .val (.int p2), .val (.int p3), .val (.ref x96), .val (.int (Int32.ofNat a)), .val (.int (Int32.ofNat b)), .val (.ref x139), .val (.int (Int32.ofNat (ρ2 a))), .val (.int (Int32.ofNat (ρ2 b))), .val (.ref x248), .val (.ref x328), .unset, .unset] [(.int (Int32.ofNat 2)), (.int (Int32.ofNat 1)), (.ref x248), (.ref x328)]
  refine w509.callS (wd hw 43 rfl) (wd hw 44 rfl) (wd hw 41 rfl) (wd hw 45 rfl) (by decide) (argsL := [(.ref x328), (.ref x248), (.int (Int32.ofNat 1)), (.int (Int32.ofNat 2))]) (Wd := 0) (Ctr.pays (len := 3) (Wd := 0) (c_sp l Z a0 hw hEL Y456 Y455 (hc 1 (by decide)) (hc 2 (by decide))) w509 (wd hw 45 rfl) (wd hw 41 rfl) hEL (by decide) (by decide) sfNil) pd6 rfl (st := []) rfl rfl (Nat.le_of_eq rfl) (dc.g 198 rfl) (by decide) (by decide) ?_
  intro vm513 T514 h515 v516 w517 C518 Q519
  obtain ⟨eQ519, rfl⟩ := Q519
  subst eQ519
  show Go κ _ T514 339 #[.val (.int p0), .val (.int p1), .val (.int p2), .val (.int p3), .val (.ref x96), .val (.int (Int32.ofNat a)), .val (.int (Int32.ofNat b)), .val (.ref x139), .val (.int (Int32.ofNat (ρ2 a))), .val (.int (Int32.ofNat (ρ2 b))), .val (.ref x248), .val (.ref x328), .unset, .unset] [(.int (1 : Int32))]
  refine zEq (pc' := 370) w517.ok (dc.g 199 rfl) (by decide) (by decide) (fun hc520 => absurd hc520 (by decide)) (fun hc520 => ?_)
  show Go κ _ T514 342 #[.val (.int p0), .val (.int p1), .val (.int p2), .val (.int p3), .val (.ref x96), .val (.int (Int32.ofNat a)), .val (.int (Int32.ofNat b)), .val (.ref x139), .val (.int (Int32.ofNat (ρ2 a))), .val (.int (Int32.ofNat (ρ2 b))), .val (.ref x248), .val (.ref x328), .unset, .unset] []
  refine blk (pc' := 348) (Ls' := #[.val (.int p0), .val (.int p1), .val (.int p2), .val (.int p3), .val (.ref x96), .val (.int (Int32.ofNat a)), .val (.int (Int32.ofNat b)), .val (.ref x139), .val (.int (Int32.ofNat (ρ2 a))), .val (.int (Int32.ofNat (ρ2 b))), .val (.ref x248), .val (.ref x328), .unset, .unset]) (st' := [(.int (3 : Int32)), (.int (1 : Int32)), (.ref x248), (.ref x328)]) [oAload w517.ok (dc.g 200 rfl), oAload w517.ok (dc.g 201 rfl), oIconst w517.ok (dc.g 202 rfl), oIconst w517.ok (dc.g 203 rfl)] rfl ?_
  show Go κ _ T514 348 #[.val (.int p0), .val (.int p1), .val (.int p2), .val (.int p3), .val (.ref x96), .val (.int (Int32.ofNat a)), .val (.int (Int32.ofNat b)), .val (.ref x139), .val (.int (Int32.ofNat (ρ2 a))), .val (.int (Int32.ofNat (ρ2 b))), .val (.ref x248), .val (.ref x328), .unset, .unset] [(.int (Int32.ofNat 3)), (.int (Int32.ofNat 1)), (.ref x248), (.ref x328)]
  refine w517.callS (wd hw 43 rfl) (wd hw 44 rfl) (wd hw 41 rfl) (wd hw 45 rfl) (by decide) (argsL := [(.ref x328), (.ref x248), (.int (Int32.ofNat 1)), (.int (Int32.ofNat 3))]) (Wd := 0) (Ctr.pays (len := 3) (Wd := 0) (c_sp l Z a0 hw hEL Y456 Y455 (hc 1 (by decide)) (hc 3 (by decide))) w517 (wd hw 45 rfl) (wd hw 41 rfl) hEL (by decide) (by decide) sfNil) pd6 rfl (st := []) rfl rfl (Nat.le_of_eq rfl) (dc.g 204 rfl) (by decide) (by decide) ?_
  intro vm521 T522 h523 v524 w525 C526 Q527
  obtain ⟨eQ527, rfl⟩ := Q527
  subst eQ527
  show Go κ _ T522 351 #[.val (.int p0), .val (.int p1), .val (.int p2), .val (.int p3), .val (.ref x96), .val (.int (Int32.ofNat a)), .val (.int (Int32.ofNat b)), .val (.ref x139), .val (.int (Int32.ofNat (ρ2 a))), .val (.int (Int32.ofNat (ρ2 b))), .val (.ref x248), .val (.ref x328), .unset, .unset] [(.int (1 : Int32))]
  refine zEq (pc' := 370) w525.ok (dc.g 205 rfl) (by decide) (by decide) (fun hc528 => absurd hc528 (by decide)) (fun hc528 => ?_)
  show Go κ _ T522 354 #[.val (.int p0), .val (.int p1), .val (.int p2), .val (.int p3), .val (.ref x96), .val (.int (Int32.ofNat a)), .val (.int (Int32.ofNat b)), .val (.ref x139), .val (.int (Int32.ofNat (ρ2 a))), .val (.int (Int32.ofNat (ρ2 b))), .val (.ref x248), .val (.ref x328), .unset, .unset] []
  refine blk (pc' := 360) (Ls' := #[.val (.int p0), .val (.int p1), .val (.int p2), .val (.int p3), .val (.ref x96), .val (.int (Int32.ofNat a)), .val (.int (Int32.ofNat b)), .val (.ref x139), .val (.int (Int32.ofNat (ρ2 a))), .val (.int (Int32.ofNat (ρ2 b))), .val (.ref x248), .val (.ref x328), .unset, .unset]) (st' := [(.int (3 : Int32)), (.int (2 : Int32)), (.ref x248), (.ref x328)]) [oAload w525.ok (dc.g 206 rfl), oAload w525.ok (dc.g 207 rfl), oIconst w525.ok (dc.g 208 rfl), oIconst w525.ok (dc.g 209 rfl)] rfl ?_
  show Go κ _ T522 360 #[.val (.int p0), .val (.int p1), .val (.int p2), .val (.int p3), .val (.ref x96), .val (.int (Int32.ofNat a)), .val (.int (Int32.ofNat b)), .val (.ref x139), .val (.int (Int32.ofNat (ρ2 a))), .val (.int (Int32.ofNat (ρ2 b))), .val (.ref x248), .val (.ref x328), .unset, .unset] [(.int (Int32.ofNat 3)), (.int (Int32.ofNat 2)), (.ref x248), (.ref x328)]
  refine w525.callS (wd hw 43 rfl) (wd hw 44 rfl) (wd hw 41 rfl) (wd hw 45 rfl) (by decide) (argsL := [(.ref x328), (.ref x248), (.int (Int32.ofNat 2)), (.int (Int32.ofNat 3))]) (Wd := 0) (Ctr.pays (len := 3) (Wd := 0) (c_sp l Z a0 hw hEL Y456 Y455 (hc 2 (by decide)) (hc 3 (by decide))) w525 (wd hw 45 rfl) (wd hw 41 rfl) hEL (by decide) (by decide) sfNil) pd6 rfl (st := []) rfl rfl (Nat.le_of_eq rfl) (dc.g 210 rfl) (by decide) (by decide) ?_
  intro vm529 T530 h531 v532 w533 C534 Q535
  obtain ⟨eQ535, rfl⟩ := Q535
  subst eQ535
  show Go κ _ T530 363 #[.val (.int p0), .val (.int p1), .val (.int p2), .val (.int p3), .val (.ref x96), .val (.int (Int32.ofNat a)), .val (.int (Int32.ofNat b)), .val (.ref x139), .val (.int (Int32.ofNat (ρ2 a))), .val (.int (Int32.ofNat (ρ2 b))), .val (.ref x248), .val (.ref x328), .unset, .unset] [(.int (1 : Int32))]
  refine zEq (pc' := 370) w533.ok (dc.g 211 rfl) (by decide) (by decide) (fun hc536 => absurd hc536 (by decide)) (fun hc536 => ?_)
  show Go κ _ T530 366 #[.val (.int p0), .val (.int p1), .val (.int p2), .val (.int p3), .val (.ref x96), .val (.int (Int32.ofNat a)), .val (.int (Int32.ofNat b)), .val (.ref x139), .val (.int (Int32.ofNat (ρ2 a))), .val (.int (Int32.ofNat (ρ2 b))), .val (.ref x248), .val (.ref x328), .unset, .unset] []
  refine blk (pc' := 378) (Ls' := #[.val (.int p0), .val (.int p1), .val (.int p2), .val (.int p3), .val (.ref x96), .val (.int (Int32.ofNat a)), .val (.int (Int32.ofNat b)), .val (.ref x139), .val (.int (Int32.ofNat (ρ2 a))), .val (.int (Int32.ofNat (ρ2 b))), .val (.ref x248), .val (.ref x328), .val (.int (1 : Int32)), .unset]) (st' := [(.int (0 : Int32)), (.ref x328), (.ref x248)]) [oIconst w533.ok (dc.g 212 rfl), oGoto w533.ok 371 (dc.g 213 rfl), oIstore w533.ok (dc.g 215 rfl), oAload w533.ok (dc.g 216 rfl), oAload w533.ok (dc.g 217 rfl), oIconst w533.ok (dc.g 218 rfl)] rfl ?_
  refine w533.ild Y456 (i := 0) rfl (hc 0 (by decide)) (dc.g 219 rfl) ?_
  show Go κ _ T530 379 #[.val (.int p0), .val (.int p1), .val (.int p2), .val (.int p3), .val (.ref x96), .val (.int (Int32.ofNat a)), .val (.int (Int32.ofNat b)), .val (.ref x139), .val (.int (Int32.ofNat (ρ2 a))), .val (.int (Int32.ofNat (ρ2 b))), .val (.ref x248), .val (.ref x328), .val (.int (1 : Int32)), .unset] [(.int (Int32.ofNat (ρ3 0))), (.ref x248)]
  refine w533.ild Y455 (i := (ρ3 0)) rfl (by rw [hc _ hs0, S3.idem (by decide)]) (dc.g 220 rfl) ?_
  show Go κ _ T530 380 #[.val (.int p0), .val (.int p1), .val (.int p2), .val (.int p3), .val (.ref x96), .val (.int (Int32.ofNat a)), .val (.int (Int32.ofNat b)), .val (.ref x139), .val (.int (Int32.ofNat (ρ2 a))), .val (.int (Int32.ofNat (ρ2 b))), .val (.ref x248), .val (.ref x328), .val (.int (1 : Int32)), .unset] [(.int (Int32.ofNat (ρ3 0)))]
  refine blk (pc' := 383) (Ls' := #[.val (.int p0), .val (.int p1), .val (.int p2), .val (.int p3), .val (.ref x96), .val (.int (Int32.ofNat a)), .val (.int (Int32.ofNat b)), .val (.ref x139), .val (.int (Int32.ofNat (ρ2 a))), .val (.int (Int32.ofNat (ρ2 b))), .val (.ref x248), .val (.ref x328), .val (.int (1 : Int32)), .unset]) (st' := [(.int (0 : Int32)), (.ref x248), (.int (Int32.ofNat (ρ3 0)))]) [oAload w533.ok (dc.g 221 rfl), oIconst w533.ok (dc.g 222 rfl)] rfl ?_
  refine w533.ild Y455 (i := 0) rfl (hc 0 (by decide)) (dc.g 223 rfl) ?_
  show Go κ _ T530 384 #[.val (.int p0), .val (.int p1), .val (.int p2), .val (.int p3), .val (.ref x96), .val (.int (Int32.ofNat a)), .val (.int (Int32.ofNat b)), .val (.ref x139), .val (.int (Int32.ofNat (ρ2 a))), .val (.int (Int32.ofNat (ρ2 b))), .val (.ref x248), .val (.ref x328), .val (.int (1 : Int32)), .unset] [(.int (Int32.ofNat (ρ3 0))), (.int (Int32.ofNat (ρ3 0)))]
  refine cNe (pc' := 433) w533.ok (dc.g 224 rfl) (by decide) (by decide) (fun hc537 => absurd rfl hc537) (fun hc537 => ?_)
  show Go κ _ T530 387 #[.val (.int p0), .val (.int p1), .val (.int p2), .val (.int p3), .val (.ref x96), .val (.int (Int32.ofNat a)), .val (.int (Int32.ofNat b)), .val (.ref x139), .val (.int (Int32.ofNat (ρ2 a))), .val (.int (Int32.ofNat (ρ2 b))), .val (.ref x248), .val (.ref x328), .val (.int (1 : Int32)), .unset] []
  refine blk (pc' := 392) (Ls' := #[.val (.int p0), .val (.int p1), .val (.int p2), .val (.int p3), .val (.ref x96), .val (.int (Int32.ofNat a)), .val (.int (Int32.ofNat b)), .val (.ref x139), .val (.int (Int32.ofNat (ρ2 a))), .val (.int (Int32.ofNat (ρ2 b))), .val (.ref x248), .val (.ref x328), .val (.int (1 : Int32)), .unset]) (st' := [(.int (1 : Int32)), (.ref x328), (.ref x248)]) [oAload w533.ok (dc.g 225 rfl), oAload w533.ok (dc.g 226 rfl), oIconst w533.ok (dc.g 227 rfl)] rfl ?_
  refine w533.ild Y456 (i := 1) rfl (hc 1 (by decide)) (dc.g 228 rfl) ?_
  show Go κ _ T530 393 #[.val (.int p0), .val (.int p1), .val (.int p2), .val (.int p3), .val (.ref x96), .val (.int (Int32.ofNat a)), .val (.int (Int32.ofNat b)), .val (.ref x139), .val (.int (Int32.ofNat (ρ2 a))), .val (.int (Int32.ofNat (ρ2 b))), .val (.ref x248), .val (.ref x328), .val (.int (1 : Int32)), .unset] [(.int (Int32.ofNat (ρ3 1))), (.ref x248)]
  refine w533.ild Y455 (i := (ρ3 1)) rfl (by rw [hc _ hs1, S3.idem (by decide)]) (dc.g 229 rfl) ?_
  show Go κ _ T530 394 #[.val (.int p0), .val (.int p1), .val (.int p2), .val (.int p3), .val (.ref x96), .val (.int (Int32.ofNat a)), .val (.int (Int32.ofNat b)), .val (.ref x139), .val (.int (Int32.ofNat (ρ2 a))), .val (.int (Int32.ofNat (ρ2 b))), .val (.ref x248), .val (.ref x328), .val (.int (1 : Int32)), .unset] [(.int (Int32.ofNat (ρ3 1)))]
  refine blk (pc' := 397) (Ls' := #[.val (.int p0), .val (.int p1), .val (.int p2), .val (.int p3), .val (.ref x96), .val (.int (Int32.ofNat a)), .val (.int (Int32.ofNat b)), .val (.ref x139), .val (.int (Int32.ofNat (ρ2 a))), .val (.int (Int32.ofNat (ρ2 b))), .val (.ref x248), .val (.ref x328), .val (.int (1 : Int32)), .unset]) (st' := [(.int (1 : Int32)), (.ref x248), (.int (Int32.ofNat (ρ3 1)))]) [oAload w533.ok (dc.g 230 rfl), oIconst w533.ok (dc.g 231 rfl)] rfl ?_
  refine w533.ild Y455 (i := 1) rfl (hc 1 (by decide)) (dc.g 232 rfl) ?_
  show Go κ _ T530 398 #[.val (.int p0), .val (.int p1), .val (.int p2), .val (.int p3), .val (.ref x96), .val (.int (Int32.ofNat a)), .val (.int (Int32.ofNat b)), .val (.ref x139), .val (.int (Int32.ofNat (ρ2 a))), .val (.int (Int32.ofNat (ρ2 b))), .val (.ref x248), .val (.ref x328), .val (.int (1 : Int32)), .unset] [(.int (Int32.ofNat (ρ3 1))), (.int (Int32.ofNat (ρ3 1)))]
  refine cNe (pc' := 433) w533.ok (dc.g 233 rfl) (by decide) (by decide) (fun hc538 => absurd rfl hc538) (fun hc538 => ?_)
  show Go κ _ T530 401 #[.val (.int p0), .val (.int p1), .val (.int p2), .val (.int p3), .val (.ref x96), .val (.int (Int32.ofNat a)), .val (.int (Int32.ofNat b)), .val (.ref x139), .val (.int (Int32.ofNat (ρ2 a))), .val (.int (Int32.ofNat (ρ2 b))), .val (.ref x248), .val (.ref x328), .val (.int (1 : Int32)), .unset] []
  refine blk (pc' := 406) (Ls' := #[.val (.int p0), .val (.int p1), .val (.int p2), .val (.int p3), .val (.ref x96), .val (.int (Int32.ofNat a)), .val (.int (Int32.ofNat b)), .val (.ref x139), .val (.int (Int32.ofNat (ρ2 a))), .val (.int (Int32.ofNat (ρ2 b))), .val (.ref x248), .val (.ref x328), .val (.int (1 : Int32)), .unset]) (st' := [(.int (2 : Int32)), (.ref x328), (.ref x248)]) [oAload w533.ok (dc.g 234 rfl), oAload w533.ok (dc.g 235 rfl), oIconst w533.ok (dc.g 236 rfl)] rfl ?_
  refine w533.ild Y456 (i := 2) rfl (hc 2 (by decide)) (dc.g 237 rfl) ?_
  show Go κ _ T530 407 #[.val (.int p0), .val (.int p1), .val (.int p2), .val (.int p3), .val (.ref x96), .val (.int (Int32.ofNat a)), .val (.int (Int32.ofNat b)), .val (.ref x139), .val (.int (Int32.ofNat (ρ2 a))), .val (.int (Int32.ofNat (ρ2 b))), .val (.ref x248), .val (.ref x328), .val (.int (1 : Int32)), .unset] [(.int (Int32.ofNat (ρ3 2))), (.ref x248)]
  refine w533.ild Y455 (i := (ρ3 2)) rfl (by rw [hc _ hs2, S3.idem (by decide)]) (dc.g 238 rfl) ?_
  show Go κ _ T530 408 #[.val (.int p0), .val (.int p1), .val (.int p2), .val (.int p3), .val (.ref x96), .val (.int (Int32.ofNat a)), .val (.int (Int32.ofNat b)), .val (.ref x139), .val (.int (Int32.ofNat (ρ2 a))), .val (.int (Int32.ofNat (ρ2 b))), .val (.ref x248), .val (.ref x328), .val (.int (1 : Int32)), .unset] [(.int (Int32.ofNat (ρ3 2)))]
  refine blk (pc' := 411) (Ls' := #[.val (.int p0), .val (.int p1), .val (.int p2), .val (.int p3), .val (.ref x96), .val (.int (Int32.ofNat a)), .val (.int (Int32.ofNat b)), .val (.ref x139), .val (.int (Int32.ofNat (ρ2 a))), .val (.int (Int32.ofNat (ρ2 b))), .val (.ref x248), .val (.ref x328), .val (.int (1 : Int32)), .unset]) (st' := [(.int (2 : Int32)), (.ref x248), (.int (Int32.ofNat (ρ3 2)))]) [oAload w533.ok (dc.g 239 rfl), oIconst w533.ok (dc.g 240 rfl)] rfl ?_
  refine w533.ild Y455 (i := 2) rfl (hc 2 (by decide)) (dc.g 241 rfl) ?_
  show Go κ _ T530 412 #[.val (.int p0), .val (.int p1), .val (.int p2), .val (.int p3), .val (.ref x96), .val (.int (Int32.ofNat a)), .val (.int (Int32.ofNat b)), .val (.ref x139), .val (.int (Int32.ofNat (ρ2 a))), .val (.int (Int32.ofNat (ρ2 b))), .val (.ref x248), .val (.ref x328), .val (.int (1 : Int32)), .unset] [(.int (Int32.ofNat (ρ3 2))), (.int (Int32.ofNat (ρ3 2)))]
  refine cNe (pc' := 433) w533.ok (dc.g 242 rfl) (by decide) (by decide) (fun hc539 => absurd rfl hc539) (fun hc539 => ?_)
  show Go κ _ T530 415 #[.val (.int p0), .val (.int p1), .val (.int p2), .val (.int p3), .val (.ref x96), .val (.int (Int32.ofNat a)), .val (.int (Int32.ofNat b)), .val (.ref x139), .val (.int (Int32.ofNat (ρ2 a))), .val (.int (Int32.ofNat (ρ2 b))), .val (.ref x248), .val (.ref x328), .val (.int (1 : Int32)), .unset] []
  refine blk (pc' := 420) (Ls' := #[.val (.int p0), .val (.int p1), .val (.int p2), .val (.int p3), .val (.ref x96), .val (.int (Int32.ofNat a)), .val (.int (Int32.ofNat b)), .val (.ref x139), .val (.int (Int32.ofNat (ρ2 a))), .val (.int (Int32.ofNat (ρ2 b))), .val (.ref x248), .val (.ref x328), .val (.int (1 : Int32)), .unset]) (st' := [(.int (3 : Int32)), (.ref x328), (.ref x248)]) [oAload w533.ok (dc.g 243 rfl), oAload w533.ok (dc.g 244 rfl), oIconst w533.ok (dc.g 245 rfl)] rfl ?_
  refine w533.ild Y456 (i := 3) rfl (hc 3 (by decide)) (dc.g 246 rfl) ?_
  show Go κ _ T530 421 #[.val (.int p0), .val (.int p1), .val (.int p2), .val (.int p3), .val (.ref x96), .val (.int (Int32.ofNat a)), .val (.int (Int32.ofNat b)), .val (.ref x139), .val (.int (Int32.ofNat (ρ2 a))), .val (.int (Int32.ofNat (ρ2 b))), .val (.ref x248), .val (.ref x328), .val (.int (1 : Int32)), .unset] [(.int (Int32.ofNat (ρ3 3))), (.ref x248)]
  refine w533.ild Y455 (i := (ρ3 3)) rfl (by rw [hc _ hs3, S3.idem (by decide)]) (dc.g 247 rfl) ?_
  show Go κ _ T530 422 #[.val (.int p0), .val (.int p1), .val (.int p2), .val (.int p3), .val (.ref x96), .val (.int (Int32.ofNat a)), .val (.int (Int32.ofNat b)), .val (.ref x139), .val (.int (Int32.ofNat (ρ2 a))), .val (.int (Int32.ofNat (ρ2 b))), .val (.ref x248), .val (.ref x328), .val (.int (1 : Int32)), .unset] [(.int (Int32.ofNat (ρ3 3)))]
  refine blk (pc' := 425) (Ls' := #[.val (.int p0), .val (.int p1), .val (.int p2), .val (.int p3), .val (.ref x96), .val (.int (Int32.ofNat a)), .val (.int (Int32.ofNat b)), .val (.ref x139), .val (.int (Int32.ofNat (ρ2 a))), .val (.int (Int32.ofNat (ρ2 b))), .val (.ref x248), .val (.ref x328), .val (.int (1 : Int32)), .unset]) (st' := [(.int (3 : Int32)), (.ref x248), (.int (Int32.ofNat (ρ3 3)))]) [oAload w533.ok (dc.g 248 rfl), oIconst w533.ok (dc.g 249 rfl)] rfl ?_
  refine w533.ild Y455 (i := 3) rfl (hc 3 (by decide)) (dc.g 250 rfl) ?_
  show Go κ _ T530 426 #[.val (.int p0), .val (.int p1), .val (.int p2), .val (.int p3), .val (.ref x96), .val (.int (Int32.ofNat a)), .val (.int (Int32.ofNat b)), .val (.ref x139), .val (.int (Int32.ofNat (ρ2 a))), .val (.int (Int32.ofNat (ρ2 b))), .val (.ref x248), .val (.ref x328), .val (.int (1 : Int32)), .unset] [(.int (Int32.ofNat (ρ3 3))), (.int (Int32.ofNat (ρ3 3)))]
  refine cNe (pc' := 433) w533.ok (dc.g 251 rfl) (by decide) (by decide) (fun hc540 => absurd rfl hc540) (fun hc540 => ?_)
  show Go κ _ T530 429 #[.val (.int p0), .val (.int p1), .val (.int p2), .val (.int p3), .val (.ref x96), .val (.int (Int32.ofNat a)), .val (.int (Int32.ofNat b)), .val (.ref x139), .val (.int (Int32.ofNat (ρ2 a))), .val (.int (Int32.ofNat (ρ2 b))), .val (.ref x248), .val (.ref x328), .val (.int (1 : Int32)), .unset] []
  refine blk (pc' := 438) (Ls' := #[.val (.int p0), .val (.int p1), .val (.int p2), .val (.int p3), .val (.ref x96), .val (.int (Int32.ofNat a)), .val (.int (Int32.ofNat b)), .val (.ref x139), .val (.int (Int32.ofNat (ρ2 a))), .val (.int (Int32.ofNat (ρ2 b))), .val (.ref x248), .val (.ref x328), .val (.int (1 : Int32)), .val (.int (1 : Int32))]) (st' := [(.int (1 : Int32))]) [oIconst w533.ok (dc.g 252 rfl), oGoto w533.ok 434 (dc.g 253 rfl), oIstore w533.ok (dc.g 255 rfl), oIload w533.ok (dc.g 256 rfl)] rfl ?_
  refine zEq (pc' := 450) w533.ok (dc.g 257 rfl) (by decide) (by decide) (fun hc541 => absurd hc541 (by decide)) (fun hc541 => ?_)
  show Go κ _ T530 441 #[.val (.int p0), .val (.int p1), .val (.int p2), .val (.int p3), .val (.ref x96), .val (.int (Int32.ofNat a)), .val (.int (Int32.ofNat b)), .val (.ref x139), .val (.int (Int32.ofNat (ρ2 a))), .val (.int (Int32.ofNat (ρ2 b))), .val (.ref x248), .val (.ref x328), .val (.int (1 : Int32)), .val (.int (1 : Int32))] []
  refine blk (pc' := 443) (Ls' := #[.val (.int p0), .val (.int p1), .val (.int p2), .val (.int p3), .val (.ref x96), .val (.int (Int32.ofNat a)), .val (.int (Int32.ofNat b)), .val (.ref x139), .val (.int (Int32.ofNat (ρ2 a))), .val (.int (Int32.ofNat (ρ2 b))), .val (.ref x248), .val (.ref x328), .val (.int (1 : Int32)), .val (.int (1 : Int32))]) (st' := [(.int (1 : Int32))]) [oIload w533.ok (dc.g 258 rfl)] rfl ?_
  refine zEq (pc' := 450) w533.ok (dc.g 259 rfl) (by decide) (by decide) (fun hc542 => absurd hc542 (by decide)) (fun hc542 => ?_)
  show Go κ _ T530 446 #[.val (.int p0), .val (.int p1), .val (.int p2), .val (.int p3), .val (.ref x96), .val (.int (Int32.ofNat a)), .val (.int (Int32.ofNat b)), .val (.ref x139), .val (.int (Int32.ofNat (ρ2 a))), .val (.int (Int32.ofNat (ρ2 b))), .val (.ref x248), .val (.ref x328), .val (.int (1 : Int32)), .val (.int (1 : Int32))] []
  refine blk (pc' := 451) (Ls' := #[.val (.int p0), .val (.int p1), .val (.int p2), .val (.int p3), .val (.ref x96), .val (.int (Int32.ofNat a)), .val (.int (Int32.ofNat b)), .val (.ref x139), .val (.int (Int32.ofNat (ρ2 a))), .val (.int (Int32.ofNat (ρ2 b))), .val (.ref x248), .val (.ref x328), .val (.int (1 : Int32)), .val (.int (1 : Int32))]) (st' := [(.int (1 : Int32))]) [oIconst w533.ok (dc.g 260 rfl), oGoto w533.ok 451 (dc.g 261 rfl)] rfl ?_
  exact w533.retI (t := .boolean) rfl (Or.inr (Or.inl rfl)) rfl (dc.g 263 rfl) (by decide) (by decide) (fun S hS => rfl)
set_option maxRecDepth 65536 in
set_option maxHeartbeats 4000000 in
theorem comes_1 {Post : Tables → Env → Array Value → State → Outcome → State → Prop} (hpost : ∀ tb e args s v u, (limb_1_1.after args s (.returned v) u = true ∧ limb_1_2.after args s (.returned v) u = true ∧ True) → ReturnedEndW s (.returned v) u (Jvm.fieldLocs frame_1_writes args s ++ Jvm.arrayLocs frame_1_arrays args s ++ Jvm.staticLocs frame_1_statics s) 24 128 → Post tb e args s (.returned v) u) :
    ArmFor flags0 classFile x code maxLocals ret World_1 tables_1 room_1 Calls_1 rest_1 Pre_1 Post := by
  intro l hfl _ _ p e ha hc hk s m args below hf hA hF happ hP
  obtain ⟨hcalls, hrest, hpre⟩ := hP
  obtain ⟨-, -, -, hnamed, -, -, -, hat⟩ := (Spec.applies_iff hf).mp happ
  obtain ⟨hg, hn⟩ := and_e (Cond.before_iff.mp (show (Jvm.Cond.and given_1 narrow_1).before args s = true from hpre))
  obtain ⟨hct, q0⟩ := and_e hg
  obtain ⟨g0, q1⟩ := and_e q0
  obtain ⟨g1, q2⟩ := and_e q1
  obtain ⟨g2, q3⟩ := and_e q2
  have g3 := q3
  obtain ⟨w0, w1, w2, w3, rfl⟩ : ∃ w0 w1 w2 w3 : Value, args = #[w0, w1, w2, w3] := by
    have hs : args.size = 4 := by simpa [Cond.value, given_1] using hct
    obtain ⟨L⟩ := args
    match L, hs with
    | [w0, w1, w2, w3], _ => exact ⟨w0, w1, w2, w3, rfl⟩
  obtain ⟨i0, e0⟩ := is_v g0
  obtain rfl : w0 = (.int i0) := Option.some.inj e0
  obtain ⟨i1, e1⟩ := is_v g1
  obtain rfl : w1 = (.int i1) := Option.some.inj e1
  obtain ⟨i2, e2⟩ := is_v g2
  obtain rfl : w2 = (.int i2) := Option.some.inj e2
  obtain ⟨i3, e3⟩ := is_v g3
  obtain rfl : w3 = (.int i3) := Option.some.inj e3
  have hw := fun d (hd : d ∈ tables_1) => atoms_spec (ws := Jvm.Cond.code x code maxLocals ret :: tables_1) hat d (List.mem_cons_of_mem _ hd)

  have hfit : Fit s := fun {y c} hc i hi => by
    obtain ⟨ha, rfl⟩ := Array.getElem?_eq_some_iff.mp hc
    have q := List.all_eq_true.mp ((Array.all_eq_true_iff_forall_mem.mp hF) _ (Array.getElem_mem ha)) i (List.mem_range.mpr hi)
    simpa [Array.getElem?_eq_getElem hi] using q
  obtain ⟨n, o, h1, h2, h3, _, L, rfl, ⟨rfl, N⟩, hNw, hq⟩ := c_law l s _ hw EW.nil s.heap ⟨Nat.le_refl _, fun _ _ q => q⟩ tables_1 p e ha hc hk s m _ below hf ((Spec.applies_iff_loose hf).mp happ).1 ⟨rfl, State.Warmed39.refl s, rfl, ⟨(fun _ h => nomatch h), Nw.refl _⟩, fun _ h => nomatch h⟩ trivial
  refine ⟨n, _, h1, h2, h3, hpost _ _ _ _ _ _ ⟨Cond.after_iff.mpr rfl, Cond.after_iff.mpr (eq_i res_at (Term.int_eval (1)) rfl), trivial⟩ ⟨hq.1, hq.2.1, hq.2.2.1, (hq.2.2.2.sift fun y hy => Or.inr (N y hy)).mono (by decide) (by decide)⟩⟩
theorem main_1_1 : Claimed_1_1 := comes_1 fun _ _ _ _ _ _ h hF => ⟨h.1, hF⟩
theorem main_1_2 : Claimed_1_2 := comes_1 fun _ _ _ _ _ _ h hF => ⟨h.2.1, hF⟩
end Jvm.Pilot.@@N@@
namespace Jvm.Pilot.@@N@@
open Jvm Jvm.ClassFile Sem Op Lib Jvm.Free Jvm.Stand Jvm.Pilot.@@N@@.Jvm.D
/-! MADE BY PROGRAM (witnessworld.py) out of the Statement's table words and the real class files: 13 classes; the members and pool entries that the words name. The judged class is class 1, her method 3. -/
namespace start1
open Jvm.ClassFile
def u (s : String) : CpInfo := .utf8 (stringToUtf16 s)
/-- a pool by its gaps: so many unusable entries, then the entry; so many at the end -/
def gap : Nat → List CpInfo → List CpInfo
  | 0, r => r
  | n + 1, r => .unusable :: gap n r
def poolList (es : List (Nat × CpInfo)) (last : Nat) : List CpInfo := es.foldr (fun e r => gap e.1 (e.2 :: r)) (gap last [])
def pool (es : List (Nat × CpInfo)) (last : Nat) : Array CpInfo := ⟨poolList es last⟩
def fileOf (pool : Array CpInfo) (this : Nat) (attrs : Array Attribute := #[]) (ms : Array MethodInfo := #[]) (fl : Nat := 33) (sup : Nat := 0) (ifs : Array Nat := #[]) (fds : Array FieldInfo := #[]) : ClassFile where
  minorVersion := 0
  majorVersion := 65
  constantPool := pool
  accessFlags := fl
  thisClass := this
  superClass := sup
  interfaces := ifs
  fields := fds
  methods := ms
  attributes := attrs
def plain (name : String) (sup : Option ClassId) : Class where
  name := name
  kind := .ordinary
  loader := none
  accessFlags := 33
  super := sup
  interfaces := #[]
  cf := none
  fields := #[]
  methods := #[]
  instanceTypes := #[]
  staticTypes := #[]
  resolved := #[]
  callSites := []
  init := .initialized
  statics := none
  mirror := none

def pool0 : Array CpInfo := pool [(5, u "<init>"), (0, u "()V"), (1, .class_ 10), (1, u "java/lang/Object")] 113

def k0c0 : Code := { maxStack := 0, maxLocals := 1, code := object_method_1_code, exceptionTable := #[], attributes := #[] }
def k0m0 : Method := { name := "<init>", desc := "()V", sig := { parameters := [], returnType := none }, accessFlags := 1, code := some k0c0 }
/-- java/lang/Object -/
def k0 : Class := { plain "java/lang/Object" none with
  accessFlags := 33
  interfaces := #[]
  cf := some (fileOf pool0 8 #[] #[{ accessFlags := 1, nameIndex := 5, descriptorIndex := 6, attributes := #[] }] 33 0 #[] #[])
  fields := #[]
  methods := #[k0m0]
  instanceTypes := #[]
  staticTypes := #[]
  resolved := Array.replicate 124 none
  statics := none }

def pool1 : Array CpInfo := pool [(2, .class_ 4), (1, u "java/lang/Object"), (0, u "<init>"), (0, u "()V"), (0, .class_ 8), (0, u "com/example/isomark/isomark/DisjointSets"), (0, .methodref 7 10), (0, .nameAndType 5 11), (0, u "(I)V"), (0, .methodref 7 13), (0, .nameAndType 14 15), (0, u "join"), (0, u "(II)V"), (0, .methodref 7 17), (0, .nameAndType 18 19), (0, u "root"), (0, u "(I)I"), (0, .methodref 21 22), (0, .class_ 23), (0, .nameAndType 24 25), (0, u "com/example/isomark/isomark/DisjointSetsJoinPinLaw"), (0, u "inRange"), (0, u "(I)Z"), (0, .methodref 21 27), (0, .nameAndType 28 29), (0, u "samePair"), (0, u "([I[III)Z"), (5, u "law"), (0, u "(IIII)Z")] 2

def k1m0 : Method := { name := "<init>", desc := "()V", sig := { parameters := [], returnType := none }, accessFlags := 1, code := none }
def k1c1 : Code := { maxStack := 2, maxLocals := 1, code := method_2_code, exceptionTable := #[], attributes := #[] }
def k1m1 : Method := { name := "inRange", desc := "(I)Z", sig := { parameters := [.int], returnType := some .boolean }, accessFlags := 10, code := some k1c1 }
def k1c2 : Code := { maxStack := 4, maxLocals := 4, code := method_3_code, exceptionTable := #[], attributes := #[] }
def k1m2 : Method := { name := "samePair", desc := "([I[III)Z", sig := { parameters := [(.array .int), (.array .int), .int, .int], returnType := some .boolean }, accessFlags := 10, code := some k1c2 }
def k1c3 : Code := { maxStack := 4, maxLocals := 14, code := code, exceptionTable := #[], attributes := #[] }
def k1m3 : Method := { name := "law", desc := "(IIII)Z", sig := { parameters := [.int, .int, .int, .int], returnType := some .boolean }, accessFlags := 9, code := some k1c3 }
/-- com/example/isomark/isomark/DisjointSetsJoinPinLaw -/
def k1 : Class := { plain "com/example/isomark/isomark/DisjointSetsJoinPinLaw" (some 0) with
  accessFlags := 49
  interfaces := #[]
  cf := some (fileOf pool1 21 #[] #[{ accessFlags := 1, nameIndex := 5, descriptorIndex := 6, attributes := #[] }, { accessFlags := 10, nameIndex := 24, descriptorIndex := 25, attributes := #[] }, { accessFlags := 10, nameIndex := 28, descriptorIndex := 29, attributes := #[] }, { accessFlags := 9, nameIndex := 35, descriptorIndex := 36, attributes := #[] }] 49 2 #[] #[])
  fields := #[]
  methods := #[k1m0, k1m1, k1m2, k1m3]
  instanceTypes := #[]
  staticTypes := #[]
  resolved := Array.replicate 39 none
  statics := none }

def pool2 : Array CpInfo := pool [(1, .methodref 2 3), (0, .class_ 4), (0, .nameAndType 5 6), (0, u "java/lang/Object"), (0, u "<init>"), (0, u "()V"), (0, .fieldref 8 9), (0, .class_ 10), (0, .nameAndType 11 12), (0, u "com/example/isomark/isomark/DisjointSets"), (0, u "parent"), (0, u "[I"), (0, .invokeDynamic 0 14), (0, .nameAndType 15 16), (0, u "applyAsInt"), (0, u "()Ljava/util/function/IntUnaryOperator;"), (0, .methodref 18 19), (0, .class_ 20), (0, .nameAndType 21 22), (0, u "java/util/Arrays"), (0, u "setAll"), (0, u "([ILjava/util/function/IntUnaryOperator;)V"), (0, .methodref 8 24), (0, .nameAndType 25 26), (0, u "root"), (0, u "(I)I"), (0, u "(I)V"), (3, u "join"), (0, u "(II)V"), (0, u "lambda$new$0"), (3, .methodType 26), (0, .methodHandle 6 39), (0, .methodref 8 40), (0, .nameAndType 33 26), (0, .methodHandle 6 42), (0, .methodref 43 44), (0, .class_ 45), (0, .nameAndType 46 47), (0, u "java/lang/invoke/LambdaMetafactory"), (0, u "metafactory"), (0, u "(Ljava/lang/invoke/MethodHandles$Lookup;Ljava/lang/String;Ljava/lang/invoke/MethodType;Ljava/lang/invoke/MethodType;Ljava/lang/invoke/MethodHandle;Ljava/lang/invoke/MethodType;)Ljava/lang/invoke/CallSite;")] 6

def k2c0 : Code := { maxStack := 2, maxLocals := 2, code := prog_32_method_1_code, exceptionTable := #[], attributes := #[] }
def k2m0 : Method := { name := "<init>", desc := "(I)V", sig := { parameters := [.int], returnType := none }, accessFlags := 0, code := some k2c0 }
def k2c1 : Code := { maxStack := 3, maxLocals := 4, code := prog_32_method_2_code, exceptionTable := #[], attributes := #[] }
def k2m1 : Method := { name := "root", desc := "(I)I", sig := { parameters := [.int], returnType := some .int }, accessFlags := 0, code := some k2c1 }
def k2c2 : Code := { maxStack := 4, maxLocals := 3, code := prog_32_method_3_code, exceptionTable := #[], attributes := #[] }
def k2m2 : Method := { name := "join", desc := "(II)V", sig := { parameters := [.int, .int], returnType := none }, accessFlags := 0, code := some k2c2 }
def k2c3 : Code := { maxStack := 1, maxLocals := 1, code := prog_32_method_4_code, exceptionTable := #[], attributes := #[] }
def k2m3 : Method := { name := "lambda$new$0", desc := "(I)I", sig := { parameters := [.int], returnType := some .int }, accessFlags := 4106, code := some k2c3 }
/-- com/example/isomark/isomark/DisjointSets -/
def k2 : Class := { plain "com/example/isomark/isomark/DisjointSets" (some 0) with
  accessFlags := 48
  interfaces := #[]
  cf := some (fileOf pool2 8 #[.bootstrapMethods #[⟨41, #[37, 38, 37]⟩]] #[{ accessFlags := 0, nameIndex := 5, descriptorIndex := 27, attributes := #[] }, { accessFlags := 0, nameIndex := 25, descriptorIndex := 26, attributes := #[] }, { accessFlags := 0, nameIndex := 31, descriptorIndex := 32, attributes := #[] }, { accessFlags := 4106, nameIndex := 33, descriptorIndex := 26, attributes := #[] }] 48 2 #[] #[{ accessFlags := 18, nameIndex := 11, descriptorIndex := 12, attributes := #[] }])
  fields := #[{ name := "parent", type := (.array .int), accessFlags := 18, slot := 0, constantValue := 0 }]
  methods := #[k2m0, k2m1, k2m2, k2m3]
  instanceTypes := #[(.array .int)]
  staticTypes := #[]
  resolved := Array.replicate 54 none
  callSites := [(0, 15, .constant 0)]
  statics := none }

def pool3 : Array CpInfo := pool [(9, u "applyAsInt"), (6, .class_ 18), (1, u "java/util/function/IntUnaryOperator"), (0, u "(I)I"), (0, .class_ 21), (0, u "java/lang/Object")] 46

def k3m0 : Method := { name := "applyAsInt", desc := "(I)I", sig := { parameters := [.int], returnType := some .int }, accessFlags := 1025, code := none }
/-- java/util/function/IntUnaryOperator -/
def k3 : Class := { plain "java/util/function/IntUnaryOperator" (some 0) with
  accessFlags := 1537
  interfaces := #[]
  cf := some (fileOf pool3 16 #[] #[{ accessFlags := 1025, nameIndex := 9, descriptorIndex := 19, attributes := #[] }] 1537 20 #[] #[])
  fields := #[]
  methods := #[k3m0]
  instanceTypes := #[]
  staticTypes := #[]
  resolved := Array.replicate 68 none
  statics := none }

def pool4 : Array CpInfo := pool [(2, .class_ 4), (1, u "java/lang/Object"), (0, u "<init>"), (0, u "()V"), (7, .class_ 16), (1, u "java/util/Arrays"), (57, .class_ 76), (1, u "java/util/Arrays$NaturalOrder"), (36, .class_ 115), (1, u "java/util/Arrays$LegacyMergeSort"), (1, u "Z"), (57, .methodref 176 177), (0, .class_ 178), (0, .nameAndType 179 180), (0, u "java/util/Objects"), (0, u "requireNonNull"), (0, u "(Ljava/lang/Object;)Ljava/lang/Object;"), (194, .class_ 376), (0, u "java/util/Arrays$ArrayList"), (68, u "$assertionsDisabled"), (136, .interfaceMethodref 583 584), (0, .class_ 585), (0, .nameAndType 586 587), (0, u "java/util/function/IntUnaryOperator"), (0, u "applyAsInt"), (0, u "(I)I"), (127, u "MIN_ARRAY_SORT_GRAN"), (0, u "I"), (2, u "INSERTIONSORT_THRESHOLD"), (187, u "setAll"), (6, u "([ILjava/util/function/IntUnaryOperator;)V"), (60, .class_ 976), (0, u "java/util/Arrays$ArrayItr")] 52

def k4m0 : Method := { name := "<init>", desc := "()V", sig := { parameters := [], returnType := none }, accessFlags := 2, code := none }
def k4c1 : Code := { maxStack := 4, maxLocals := 3, code := jdk_65_method_175_code, exceptionTable := #[], attributes := #[] }
def k4m1 : Method := { name := "setAll", desc := "([ILjava/util/function/IntUnaryOperator;)V", sig := { parameters := [(.array .int), (.object "java/util/function/IntUnaryOperator")], returnType := none }, accessFlags := 9, code := some k4c1 }
/-- java/util/Arrays -/
def k4 : Class := { plain "java/util/Arrays" (some 0) with
  accessFlags := 49
  interfaces := #[]
  cf := some (fileOf pool4 14 #[.nestMembers #[975, 375, 113, 74]] #[{ accessFlags := 2, nameIndex := 5, descriptorIndex := 6, attributes := #[] }, { accessFlags := 9, nameIndex := 907, descriptorIndex := 914, attributes := #[] }] 49 2 #[] #[{ accessFlags := 26, nameIndex := 715, descriptorIndex := 716, attributes := #[] }, { accessFlags := 26, nameIndex := 719, descriptorIndex := 716, attributes := #[] }, { accessFlags := 4120, nameIndex := 445, descriptorIndex := 117, attributes := #[] }])
  fields := #[{ name := "MIN_ARRAY_SORT_GRAN", type := .int, accessFlags := 26, slot := 0, constantValue := 0 }, { name := "INSERTIONSORT_THRESHOLD", type := .int, accessFlags := 26, slot := 1, constantValue := 0 }, { name := "$assertionsDisabled", type := .boolean, accessFlags := 4120, slot := 2, constantValue := 0 }]
  methods := #[k4m0, k4m1]
  instanceTypes := #[]
  staticTypes := #[.int, .int, .boolean]
  resolved := Array.replicate 1029 none
  statics := none }

def pool5 : Array CpInfo := pool [(2, .class_ 4), (1, u "java/lang/Object"), (0, u "<init>"), (0, u "()V"), (35, .class_ 44), (1, u "java/util/Objects"), (0, u "requireNonNull"), (0, u "(Ljava/lang/Object;)Ljava/lang/Object;")] 137

def k5m0 : Method := { name := "<init>", desc := "()V", sig := { parameters := [], returnType := none }, accessFlags := 2, code := none }
def k5c1 : Code := { maxStack := 2, maxLocals := 1, code := jdk_31_method_10_code, exceptionTable := #[], attributes := #[] }
def k5m1 : Method := { name := "requireNonNull", desc := "(Ljava/lang/Object;)Ljava/lang/Object;", sig := { parameters := [(.object "java/lang/Object")], returnType := some (.object "java/lang/Object") }, accessFlags := 9, code := some k5c1 }
/-- java/util/Objects -/
def k5 : Class := { plain "java/util/Objects" (some 0) with
  accessFlags := 49
  interfaces := #[]
  cf := some (fileOf pool5 42 #[] #[{ accessFlags := 2, nameIndex := 5, descriptorIndex := 6, attributes := #[] }, { accessFlags := 9, nameIndex := 45, descriptorIndex := 46, attributes := #[] }] 49 2 #[] #[])
  fields := #[]
  methods := #[k5m0, k5m1]
  instanceTypes := #[]
  staticTypes := #[]
  resolved := Array.replicate 184 none
  statics := none }

def pool6 : Array CpInfo := pool [(1, u "java/lang/Cloneable"), (0, .class_ 1), (0, u "java/lang/Object"), (0, .class_ 3)] 3

/-- java/lang/Cloneable -/
def k6 : Class := { plain "java/lang/Cloneable" (some 0) with
  accessFlags := 1537
  interfaces := #[]
  cf := some (fileOf pool6 2 #[] #[] 1537 4 #[] #[])
  fields := #[]
  methods := #[]
  instanceTypes := #[]
  staticTypes := #[]
  resolved := Array.replicate 8 none
  statics := none }

def pool7 : Array CpInfo := pool [(1, u "java/io/Serializable"), (0, .class_ 1), (0, u "java/lang/Object"), (0, .class_ 3)] 3

/-- java/io/Serializable -/
def k7 : Class := { plain "java/io/Serializable" (some 0) with
  accessFlags := 1537
  interfaces := #[]
  cf := some (fileOf pool7 2 #[] #[] 1537 4 #[] #[])
  fields := #[]
  methods := #[]
  instanceTypes := #[]
  staticTypes := #[]
  resolved := Array.replicate 8 none
  statics := none }

/-- the primitive byte -/
def k8 : Class := { plain "byte" none with kind := .primitive 'B', accessFlags := 0x411 }
/-- [B -/
def k9 : Class := { plain "[B" (some 0) with kind := .array 8 .byte, interfaces := #[6, 7], accessFlags := 1041 }

/-- the primitive int -/
def k10 : Class := { plain "int" none with kind := .primitive 'I', accessFlags := 0x411 }
/-- [I -/
def k11 : Class := { plain "[I" (some 0) with kind := .array 10 .int, interfaces := #[6, 7], accessFlags := 1041 }

def classes0 : Array Class := #[k0, k1, k2, k3, k4, k5, k6, k7, k8, k9, k10, k11]
/-- the class that the rule has made for the site at 15 of com/example/isomark/isomark/DisjointSets.<init> -/
def k12 : Class := Jvm.LamKit.madeRec { classes := classes0 } "com/example/isomark/isomark/DisjointSets" (Jvm.Lambda.Shape.mk "java/util/function/IntUnaryOperator" "applyAsInt" (Jvm.ClassFile.MethodDescriptor.mk ([Jvm.ClassFile.FieldType.int] : List Jvm.ClassFile.FieldType) (Option.some Jvm.ClassFile.FieldType.int)) ([] : List Jvm.ClassFile.FieldType) (6 : Nat) "com/example/isomark/isomark/DisjointSets" "lambda$new$0" (Jvm.ClassFile.MethodDescriptor.mk ([Jvm.ClassFile.FieldType.int] : List Jvm.ClassFile.FieldType) (Option.some Jvm.ClassFile.FieldType.int)) false (Jvm.ClassFile.MethodDescriptor.mk ([Jvm.ClassFile.FieldType.int] : List Jvm.ClassFile.FieldType) (Option.some Jvm.ClassFile.FieldType.int))) 12

def heap : Heap := #[{ cls := 12, slots := #[], vm := .none }]
def classes : Array Class := #[k0, k1, k2, k3, k4, k5, k6, k7, k8, k9, k10, k11, k12]
def interned : List (Array UInt16 × Addr) := []
def slotsUsed : Nat := 0
def theMethod : MethodId := ⟨1, 3⟩
def args0 : Array Value := #[.int 1, .int 2, .int 3, .int 4]
def aboutOver (below : List Frame) : State where
  vm := { classes := classes, interned := interned.toArray }
  heap := heap
  slotsUsed := slotsUsed
  threads := #[{ frames := .invoking theMethod args0 :: below }]
def below0 : List Frame := [.native { method := ⟨0, 0⟩, args := #[] }]
def about1 : State := aboutOver below0
def p0 : Program := .bare "" "" ""
def e0 : Env := launch0.env 0 0 0
theorem w_frames : about1.frames = Frame.invoking theMethod args0 :: below0 := rfl
set_option maxRecDepth 65536 in
theorem w_args : argsFit about1.vm theMethod args0 = true := by decide +kernel
set_option maxRecDepth 65536 in
theorem w_heap : heapFits about1 = true := by decide +kernel
set_option maxRecDepth 65536 in
theorem w_runnable : about1.curStatus? = some .runnable := by decide +kernel
set_option maxRecDepth 65536 in
theorem w_alone : about1.alone = true := by decide +kernel
set_option maxRecDepth 65536 in
theorem w_named : about1.methodNamed? x = some theMethod := by decide +kernel
set_option maxRecDepth 65536 in
theorem w_hears : about1.hears theMethod below0 = true := by decide +kernel
set_option maxRecDepth 65536 in
theorem w_ripe : about1.ripe theMethod args0 below0 = true := by decide +kernel
theorem w_running : about1.status = .running := rfl
set_option maxRecDepth 65536 in
theorem w_room : about1.hasRoom e0.platform room_1 = true :=
  launch0.hasRoom_least _ room_1 (by decide +kernel) (by decide +kernel) (by decide +kernel) (by decide +kernel) (by decide +kernel) (by decide +kernel)
theorem allAtoms_all (ts : List Jvm.Cond) (a : Array Jvm.Value) (st : Jvm.State) : (allAtoms ts).before a st = ts.all (fun c => c.before a st) := by
  induction ts with
  | nil => rfl
  | cons c t ih =>
    show (Jvm.Cond.and c (allAtoms t)).before a st = _
    rw [Jvm.Cond.before_and, ih, List.all_cons]
def words1 : List Jvm.Cond := Jvm.Cond.code x code maxLocals ret :: tables_1
/-- a 'code' word, met by the world's own term for the bytes: nothing is compared byte by byte -/
theorem code_word {y : MethodName} {bytes : ByteArray} {mx : Nat} {rt : Option FieldType} {a : Array Value} {s : State} {m : MethodId} {meth : Method} {c : Code} (h1 : s.methodNamed? y = some m) (h2 : s.vm.method? m = some meth) (h3 : meth.code = some c) (h4 : c.code = bytes)
    (h5 : (c.maxLocals == mx && c.exceptionTable.isEmpty && decide (c.maxStack ≤ mostOperands) && decide (meth.sig.returnType = rt) && !meth.locks && decide (parseMethodDescriptor y.desc = some meth.sig)) = true) : (Jvm.Cond.code y bytes mx rt).before a s = true := by
  simp only [Bool.and_eq_true, beq_iff_eq, Bool.not_eq_true', decide_eq_true_eq] at h5
  obtain ⟨⟨⟨⟨⟨g1, g2⟩, g3⟩, g4⟩, g5⟩, g6⟩ := h5
  simp [Cond.before, Cond.holds, Cond.value, h1, h2, h3, h4, g1, g2, g3, g4, g5, g6]
def isCode : Jvm.Cond → Bool
  | .code _ _ _ _ => true
  | _ => false
theorem all_split {L : List Jvm.Cond} {P : Jvm.Cond → Bool} (h1 : L.all (fun c => isCode c || P c) = true) (h2 : ∀ c ∈ L.filter isCode, P c = true) : L.all P = true := by
  refine List.all_eq_true.mpr fun c hc => ?_
  have h := List.all_eq_true.mp h1 c hc
  rcases Bool.eq_false_or_eq_true (isCode c) with hi | hi
  · exact h2 c (List.mem_filter.mpr ⟨hc, hi⟩)
  · simpa [hi] using h
set_option maxRecDepth 65536 in
theorem w_c0 : (Jvm.Cond.code x code maxLocals ret).before args0 about1 = true := code_word (m := ⟨1, 3⟩) (meth := k1m3) (c := k1c3) (by decide +kernel) rfl rfl rfl (by decide +kernel)
set_option maxRecDepth 65536 in
theorem w_c1 : (Jvm.Cond.code ({ cls := "com/example/isomark/isomark/DisjointSets", name := "<init>", desc := "(I)V" } : Jvm.MethodName) prog_32_method_1_code (2 : Nat) (Option.none : Option Jvm.ClassFile.FieldType)).before args0 about1 = true := code_word (m := ⟨2, 0⟩) (meth := k2m0) (c := k2c0) (by decide +kernel) rfl rfl rfl (by decide +kernel)
set_option maxRecDepth 65536 in
theorem w_c2 : (Jvm.Cond.code ({ cls := "java/lang/Object", name := "<init>", desc := "()V" } : Jvm.MethodName) object_method_1_code (1 : Nat) (Option.none : Option Jvm.ClassFile.FieldType)).before args0 about1 = true := code_word (m := ⟨0, 0⟩) (meth := k0m0) (c := k0c0) (by decide +kernel) rfl rfl rfl (by decide +kernel)
set_option maxRecDepth 65536 in
theorem w_c3 : (Jvm.Cond.code ({ cls := "java/util/Arrays", name := "setAll", desc := "([ILjava/util/function/IntUnaryOperator;)V" } : Jvm.MethodName) jdk_65_method_175_code (3 : Nat) (Option.none : Option Jvm.ClassFile.FieldType)).before args0 about1 = true := code_word (m := ⟨4, 1⟩) (meth := k4m1) (c := k4c1) (by decide +kernel) rfl rfl rfl (by decide +kernel)
set_option maxRecDepth 65536 in
theorem w_c4 : (Jvm.Cond.code ({ cls := "java/util/Objects", name := "requireNonNull", desc := "(Ljava/lang/Object;)Ljava/lang/Object;" } : Jvm.MethodName) jdk_31_method_10_code (1 : Nat) (Option.some (Jvm.ClassFile.FieldType.object "java/lang/Object"))).before args0 about1 = true := code_word (m := ⟨5, 1⟩) (meth := k5m1) (c := k5c1) (by decide +kernel) rfl rfl rfl (by decide +kernel)
set_option maxRecDepth 65536 in
theorem w_c5 : (Jvm.Cond.code ({ cls := "com/example/isomark/isomark/DisjointSets", name := "lambda$new$0", desc := "(I)I" } : Jvm.MethodName) prog_32_method_4_code (1 : Nat) (Option.some Jvm.ClassFile.FieldType.int)).before args0 about1 = true := code_word (m := ⟨2, 3⟩) (meth := k2m3) (c := k2c3) (by decide +kernel) rfl rfl rfl (by decide +kernel)
set_option maxRecDepth 65536 in
theorem w_c6 : (Jvm.Cond.code ({ cls := "com/example/isomark/isomark/DisjointSets", name := "join", desc := "(II)V" } : Jvm.MethodName) prog_32_method_3_code (3 : Nat) (Option.none : Option Jvm.ClassFile.FieldType)).before args0 about1 = true := code_word (m := ⟨2, 2⟩) (meth := k2m2) (c := k2c2) (by decide +kernel) rfl rfl rfl (by decide +kernel)
set_option maxRecDepth 65536 in
theorem w_c7 : (Jvm.Cond.code ({ cls := "com/example/isomark/isomark/DisjointSets", name := "root", desc := "(I)I" } : Jvm.MethodName) prog_32_method_2_code (4 : Nat) (Option.some Jvm.ClassFile.FieldType.int)).before args0 about1 = true := code_word (m := ⟨2, 1⟩) (meth := k2m1) (c := k2c1) (by decide +kernel) rfl rfl rfl (by decide +kernel)
set_option maxRecDepth 65536 in
theorem w_c8 : (Jvm.Cond.code ({ cls := "com/example/isomark/isomark/DisjointSetsJoinPinLaw", name := "inRange", desc := "(I)Z" } : Jvm.MethodName) method_2_code (1 : Nat) (Option.some Jvm.ClassFile.FieldType.boolean)).before args0 about1 = true := code_word (m := ⟨1, 1⟩) (meth := k1m1) (c := k1c1) (by decide +kernel) rfl rfl rfl (by decide +kernel)
set_option maxRecDepth 65536 in
theorem w_c9 : (Jvm.Cond.code ({ cls := "com/example/isomark/isomark/DisjointSetsJoinPinLaw", name := "samePair", desc := "([I[III)Z" } : Jvm.MethodName) method_3_code (4 : Nat) (Option.some Jvm.ClassFile.FieldType.boolean)).before args0 about1 = true := code_word (m := ⟨1, 2⟩) (meth := k1m2) (c := k1c2) (by decide +kernel) rfl rfl rfl (by decide +kernel)
def codes1 : List Jvm.Cond := [Jvm.Cond.code x code maxLocals ret, Jvm.Cond.code ({ cls := "com/example/isomark/isomark/DisjointSets", name := "<init>", desc := "(I)V" } : Jvm.MethodName) prog_32_method_1_code (2 : Nat) (Option.none : Option Jvm.ClassFile.FieldType), Jvm.Cond.code ({ cls := "java/lang/Object", name := "<init>", desc := "()V" } : Jvm.MethodName) object_method_1_code (1 : Nat) (Option.none : Option Jvm.ClassFile.FieldType), Jvm.Cond.code ({ cls := "java/util/Arrays", name := "setAll", desc := "([ILjava/util/function/IntUnaryOperator;)V" } : Jvm.MethodName) jdk_65_method_175_code (3 : Nat) (Option.none : Option Jvm.ClassFile.FieldType), Jvm.Cond.code ({ cls := "java/util/Objects", name := "requireNonNull", desc := "(Ljava/lang/Object;)Ljava/lang/Object;" } : Jvm.MethodName) jdk_31_method_10_code (1 : Nat) (Option.some (Jvm.ClassFile.FieldType.object "java/lang/Object")), Jvm.Cond.code ({ cls := "com/example/isomark/isomark/DisjointSets", name := "lambda$new$0", desc := "(I)I" } : Jvm.MethodName) prog_32_method_4_code (1 : Nat) (Option.some Jvm.ClassFile.FieldType.int), Jvm.Cond.code ({ cls := "com/example/isomark/isomark/DisjointSets", name := "join", desc := "(II)V" } : Jvm.MethodName) prog_32_method_3_code (3 : Nat) (Option.none : Option Jvm.ClassFile.FieldType), Jvm.Cond.code ({ cls := "com/example/isomark/isomark/DisjointSets", name := "root", desc := "(I)I" } : Jvm.MethodName) prog_32_method_2_code (4 : Nat) (Option.some Jvm.ClassFile.FieldType.int), Jvm.Cond.code ({ cls := "com/example/isomark/isomark/DisjointSetsJoinPinLaw", name := "inRange", desc := "(I)Z" } : Jvm.MethodName) method_2_code (1 : Nat) (Option.some Jvm.ClassFile.FieldType.boolean), Jvm.Cond.code ({ cls := "com/example/isomark/isomark/DisjointSetsJoinPinLaw", name := "samePair", desc := "([I[III)Z" } : Jvm.MethodName) method_3_code (4 : Nat) (Option.some Jvm.ClassFile.FieldType.boolean)]
set_option maxRecDepth 65536 in
theorem codes_eq : words1.filter isCode = codes1 := rfl
theorem w_codes : ∀ c ∈ words1.filter isCode, c.before args0 about1 = true := by
  rw [codes_eq]
  intro c hc
  simp only [codes1, List.mem_cons, List.not_mem_nil, or_false] at hc
  rcases hc with rfl | rfl | rfl | rfl | rfl | rfl | rfl | rfl | rfl | rfl
  · exact w_c0
  · exact w_c1
  · exact w_c2
  · exact w_c3
  · exact w_c4
  · exact w_c5
  · exact w_c6
  · exact w_c7
  · exact w_c8
  · exact w_c9
set_option maxRecDepth 65536 in
theorem w_t1 : (words1.take 24).all (fun c => isCode c || c.before args0 about1) = true := by decide +kernel
set_option maxRecDepth 65536 in
theorem w_t2 : (words1.drop 24).all (fun c => isCode c || c.before args0 about1) = true := by decide +kernel
theorem w_tables : (allAtoms (Jvm.Cond.code x code maxLocals ret :: tables_1)).before args0 about1 = true := by
  rw [allAtoms_all]
  show words1.all (fun c => c.before args0 about1) = true
  refine all_split ?_ w_codes
  rw [← List.take_append_drop 24 words1, List.all_append, w_t1, w_t2]
  rfl
set_option maxRecDepth 65536 in
theorem w_case : (Jvm.Cond.and given_1 narrow_1).before args0 about1 = true := by decide +kernel
theorem w_applies : (headSpec (Jvm.Cond.code x code maxLocals ret :: tables_1) room_1).applies x e0.platform about1 = true :=
  (Spec.applies_iff w_frames).mpr ⟨w_running, w_runnable, w_alone, w_named, w_hears, w_ripe, w_room, w_tables⟩
theorem atStart : AtStart classFile x code maxLocals ret World_1 tables_1 room_1 Calls_1 rest_1 Pre_1 launch0 p0 e0 about1 theMethod args0 below0 :=
  ⟨lists_1, trivial, launch0.admits_env _ _ _, launch0.least_env, fairChoices_fair.cas, fairChoices_fair.clock, w_frames, w_args, w_heap, w_applies, trivial, trivial, w_case⟩
end start1
theorem witness_1 : WitnessClaimed_1 := ⟨start1.p0, start1.e0, start1.about1, start1.theMethod, start1.args0, start1.below0, start1.atStart⟩
end Jvm.Pilot.@@N@@
