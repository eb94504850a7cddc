import JvmDerived
import JvmDerived.Pilot.@@N@@Statement
import JvmDerived.Pilot.@@N@@Code
set_option linter.unusedVariables false
set_option linter.unusedSimpArgs false
namespace Jvm.WK
open Sem ClassFile Op Lib Jvm.Stand Jvm.Free Jvm.LawKit Jvm.RoadKit Bundle
/-! WK: a walk in continuation form over RoadKit's laws: 'Go' (from this frame the invocation ends well), 'W' (where the walk stands; it may have interned), one law a step. -/
abbrev Cx : Type := Program × Env × State × MethodId × Array Value × List Frame × Method × Code
abbrev Cx.p (κ : Cx) : Program := κ.1
abbrev Cx.e (κ : Cx) : Env := κ.2.1
abbrev Cx.s (κ : Cx) : State := κ.2.2.1
abbrev Cx.m (κ : Cx) : MethodId := κ.2.2.2.1
abbrev Cx.a (κ : Cx) : Array Value := κ.2.2.2.2.1
abbrev Cx.b (κ : Cx) : List Frame := κ.2.2.2.2.2.1
abbrev Cx.M (κ : Cx) : Method := κ.2.2.2.2.2.2.1
abbrev Cx.c (κ : Cx) : Code := κ.2.2.2.2.2.2.2
def Fx (κ : Cx) (G : Option Value → State → Prop) (A : State) : Prop :=
  ∃ (v : Option Value) (B : State), Steps κ.p.tables κ.e κ.b A B ∧ B.status = .running ∧ Ended B κ.b (.returned v) ∧ G v B
abbrev Go (κ : Cx) (G : Option Value → State → Prop) (T : State) (pc : Nat) (Ls : Array Slot) (st : List Value) : Prop := Fx κ G (T.setTop (mkF κ.m pc Ls st))
section Base
variable {κ : Cx} {G : Option Value → State → Prop} {T : State}
theorem Fx.via {A A' : State} (k : ∀ t, Steps κ.p.tables κ.e κ.b A' t → Steps κ.p.tables κ.e κ.b A t) (f : Fx κ G A') : Fx κ G A := by
  obtain ⟨v, B, h1, h2⟩ := f; exact ⟨v, B, k _ h1, h2⟩
theorem Fx.after {A A' : State} (k : Steps κ.p.tables κ.e κ.b A A') (f : Fx κ G A') : Fx κ G A := by
  obtain ⟨v, B, h1, h2⟩ := f; exact ⟨v, B, k.trans h1, h2⟩
def Dec (κ : Cx) (D : List (Nat × Instr × Nat)) : Prop := ∀ q ∈ D, decode κ.c.code q.1 = .ok q.2
theorem Dec.g {D : List (Nat × Instr × Nat)} (d : Dec κ D) (i : Nat) {pc : Nat} {ins : Instr} {len : Nat} (h : D[i]? = some (pc, ins, len)) : decode κ.c.code pc = .ok (ins, len) := d (pc, ins, len) (List.mem_of_getElem? h)
theorem Dec.of {D : List (Nat × Instr × Nat)} {code : ByteArray} (hc : κ.c.code = code) (h : ∀ q ∈ D, decode code q.1 = .ok q.2) : Dec κ D := fun q hq => by rw [hc]; exact h q hq
theorem Go.top {pc : Nat} {Ls : Array Slot} {st : List Value} {x y : Int32} (e : x = y) (g : Go κ G T pc Ls (.int y :: st)) : Go κ G T pc Ls (.int x :: st) := by subst e; exact g
/-- it stands, and the tables execute as they should -/
def Ok (κ : Cx) (T : State) : Prop := At T κ.m κ.c κ.b ∧ κ.p.tables.exec = Jvm.exec
abbrev St : Type := Nat × Array Slot × List Value
def Snd (κ : Cx) (T : State) (f : St → Option St) : Prop := ∀ (a b : St) (G : Option Value → State → Prop), f a = some b → Go κ G T b.1 b.2.1 b.2.2 → Go κ G T a.1 a.2.1 a.2.2
def Opn (κ : Cx) (T : State) : Type := { f : St → Option St // Snd κ T f }
def run : List (Opn κ T) → St → Option St
  | [], a => some a
  | o :: os, a => match o.1 a with | some b => run os b | none => none
theorem run_ok : ∀ (os : List (Opn κ T)) (a b : St), run os a = some b → Go κ G T b.1 b.2.1 b.2.2 → Go κ G T a.1 a.2.1 a.2.2
  | [], a, b, h, g => by cases h; exact g
  | o :: os, a, b, h, g => by
    unfold run at h
    split at h
    · rename_i b' hb
      exact o.2 a b' G hb (run_ok os b' b h g)
    · cases h
theorem blk (os : List (Opn κ T)) {pc pc' : Nat} {Ls Ls' : Array Slot} {st st' : List Value} (h : run os (pc, Ls, st) = some (pc', Ls', st')) (g : Go κ G T pc' Ls' st') : Go κ G T pc Ls st := run_ok os (pc, Ls, st) (pc', Ls', st') h g
def mkOp (pc0 : Nat) (f : Array Slot → List Value → Option St) (hs : ∀ (Ls : Array Slot) (st : List Value) (b : St) (G : Option Value → State → Prop), f Ls st = some b → Go κ G T b.1 b.2.1 b.2.2 → Go κ G T pc0 Ls st) : Opn κ T :=
  ⟨fun a => match Nat.beq a.1 pc0 with | true => f a.2.1 a.2.2 | false => none, by
    intro a b G h g
    obtain ⟨pc, Ls, st⟩ := a
    dsimp only at h
    split at h
    · rename_i hb
      have := Nat.eq_of_beq_eq_true hb
      subst this
      exact hs Ls st b G h g
    · cases h⟩
end Base
section Ops
variable {κ : Cx} {T : State} {pc0 : Nat}
def oIconst (w : Ok κ T) {i : Int} (hd : decode κ.c.code pc0 = .ok (.iconst i, 1)) : Opn κ T := mkOp pc0 (fun Ls st => some (pc0 + 1, Ls, .int (Int32.ofInt i) :: st)) (by
  intro Ls st b G h g; cases h; exact Fx.via (fun _ => XS.iconst w.1 w.2 rfl hd) g)
def oBipush (w : Ok κ T) {i : Int} (hd : decode κ.c.code pc0 = .ok (.bipush i, 2)) : Opn κ T := mkOp pc0 (fun Ls st => some (pc0 + 2, Ls, .int (Int8.ofInt i).toInt32 :: st)) (by
  intro Ls st b G h g; cases h; exact Fx.via (fun _ => XS.bipush w.1 w.2 rfl hd) g)
def oSipush (w : Ok κ T) {i : Int} (hd : decode κ.c.code pc0 = .ok (.sipush i, 3)) : Opn κ T := mkOp pc0 (fun Ls st => some (pc0 + 3, Ls, .int (Int16.ofInt i).toInt32 :: st)) (by
  intro Ls st b G h g; cases h; exact Fx.via (fun _ => XS.sipush w.1 w.2 rfl hd) g)
def oAnull (w : Ok κ T) (hd : decode κ.c.code pc0 = .ok (.aconst_null, 1)) : Opn κ T := mkOp pc0 (fun Ls st => some (pc0 + 1, Ls, .null :: st)) (by
  intro Ls st b G h g; cases h; exact Fx.via (fun _ => XS.aconstNull w.1 w.2 rfl hd) g)
def oIload (w : Ok κ T) {k : Nat} (hd : decode κ.c.code pc0 = .ok (.iload k, 2)) : Opn κ T := mkOp pc0 (fun Ls st => match Ls[k]? with | some (.val (.int v)) => some (pc0 + 2, Ls, .int v :: st) | _ => none) (by
  intro Ls st b G h g
  split at h
  · rename_i v hl; cases h; exact Fx.via (fun _ => XS.iload w.1 w.2 rfl hd hl) g
  · cases h)
def oIloadN (w : Ok κ T) {k : Fin 4} (hd : decode κ.c.code pc0 = .ok (.iload_n k, 1)) : Opn κ T := mkOp pc0 (fun Ls st => match Ls[k.val]? with | some (.val (.int v)) => some (pc0 + 1, Ls, .int v :: st) | _ => none) (by
  intro Ls st b G h g
  split at h
  · rename_i v hl; cases h; exact Fx.via (fun _ => XS.iloadN w.1 w.2 rfl hd hl) g
  · cases h)
def oDload (w : Ok κ T) {k : Nat} (hd : decode κ.c.code pc0 = .ok (.dload k, 2)) : Opn κ T := mkOp pc0 (fun Ls st => match Ls[k]? with | some (.val (.double v)) => some (pc0 + 2, Ls, .double v :: st) | _ => none) (by
  intro Ls st b G h g
  split at h
  · rename_i v hl; cases h; exact Fx.via (fun _ => XS.dload w.1 w.2 rfl hd hl) g
  · cases h)
def oAload (w : Ok κ T) {k : Nat} (hd : decode κ.c.code pc0 = .ok (.aload k, 2)) : Opn κ T := mkOp pc0 (fun Ls st => match Ls[k]? with | some (.val (.ref v)) => some (pc0 + 2, Ls, .ref v :: st) | some (.val .null) => some (pc0 + 2, Ls, .null :: st) | _ => none) (by
  intro Ls st b G h g
  split at h
  · rename_i v hl; cases h; exact Fx.via (fun _ => XS.aload w.1 w.2 rfl hd hl rfl) g
  · rename_i hl; cases h; exact Fx.via (fun _ => XS.aload w.1 w.2 rfl hd hl rfl) g
  · cases h)
def oAloadN (w : Ok κ T) {k : Fin 4} (hd : decode κ.c.code pc0 = .ok (.aload_n k, 1)) : Opn κ T := mkOp pc0 (fun Ls st => match Ls[k.val]? with | some (.val (.ref v)) => some (pc0 + 1, Ls, .ref v :: st) | some (.val .null) => some (pc0 + 1, Ls, .null :: st) | _ => none) (by
  intro Ls st b G h g
  split at h
  · rename_i v hl; cases h; exact Fx.via (fun _ => XS.aloadN w.1 w.2 rfl hd hl rfl) g
  · rename_i hl; cases h; exact Fx.via (fun _ => XS.aloadN w.1 w.2 rfl hd hl rfl) g
  · cases h)
def oIstore (w : Ok κ T) {k : Nat} (hd : decode κ.c.code pc0 = .ok (.istore k, 2)) : Opn κ T := mkOp pc0 (fun Ls st => match st with | .int x :: r => (match storeLocals Ls k (.int x) with | some l' => some (pc0 + 2, l', r) | none => none) | _ => none) (by
  intro Ls st b G h g
  split at h
  · split at h
    · rename_i l' hl; cases h; exact Fx.via (fun _ => XS.istore w.1 w.2 rfl hd rfl hl) g
    · cases h
  · cases h)
def oIstoreN (w : Ok κ T) {k : Fin 4} (hd : decode κ.c.code pc0 = .ok (.istore_n k, 1)) : Opn κ T := mkOp pc0 (fun Ls st => match st with | .int x :: r => (match storeLocals Ls k.val (.int x) with | some l' => some (pc0 + 1, l', r) | none => none) | _ => none) (by
  intro Ls st b G h g
  split at h
  · split at h
    · rename_i l' hl; cases h; exact Fx.via (fun _ => XS.istoreN w.1 w.2 rfl hd rfl hl) g
    · cases h
  · cases h)
def oDstore (w : Ok κ T) {k : Nat} (hd : decode κ.c.code pc0 = .ok (.dstore k, 2)) : Opn κ T := mkOp pc0 (fun Ls st => match st with | .double x :: r => (match storeLocals Ls k (.double x) with | some l' => some (pc0 + 2, l', r) | none => none) | _ => none) (by
  intro Ls st b G h g
  split at h
  · split at h
    · rename_i l' hl; cases h; exact Fx.via (fun _ => XS.dstore w.1 w.2 rfl hd rfl hl) g
    · cases h
  · cases h)
def oAstore (w : Ok κ T) {k : Nat} (hd : decode κ.c.code pc0 = .ok (.astore k, 2)) : Opn κ T := mkOp pc0 (fun Ls st => match st with | .ref x :: r => (match storeLocals Ls k (.ref x) with | some l' => some (pc0 + 2, l', r) | none => none) | .null :: r => (match storeLocals Ls k .null with | some l' => some (pc0 + 2, l', r) | none => none) | _ => none) (by
  intro Ls st b G h g
  split at h
  · split at h
    · rename_i l' hl; cases h; exact Fx.via (fun _ => XS.astore w.1 w.2 rfl hd rfl rfl hl) g
    · cases h
  · split at h
    · rename_i l' hl; cases h; exact Fx.via (fun _ => XS.astore w.1 w.2 rfl hd rfl rfl hl) g
    · cases h
  · cases h)
def oAstoreN (w : Ok κ T) {k : Fin 4} (hd : decode κ.c.code pc0 = .ok (.astore_n k, 1)) : Opn κ T := mkOp pc0 (fun Ls st => match st with | .ref x :: r => (match storeLocals Ls k.val (.ref x) with | some l' => some (pc0 + 1, l', r) | none => none) | .null :: r => (match storeLocals Ls k.val .null with | some l' => some (pc0 + 1, l', r) | none => none) | _ => none) (by
  intro Ls st b G h g
  split at h
  · split at h
    · rename_i l' hl; cases h; exact Fx.via (fun _ => XS.astoreN w.1 w.2 rfl hd rfl rfl hl) g
    · cases h
  · split at h
    · rename_i l' hl; cases h; exact Fx.via (fun _ => XS.astoreN w.1 w.2 rfl hd rfl rfl hl) g
    · cases h
  · cases h)
def oIinc (w : Ok κ T) {k : Nat} {z : Int} (hd : decode κ.c.code pc0 = .ok (.iinc k z, 3)) : Opn κ T := mkOp pc0 (fun Ls st => match Ls[k]? with | some (.val (.int x)) => (match storeLocals Ls k (.int (x + Int32.ofInt z)) with | some l' => some (pc0 + 3, l', st) | none => none) | _ => none) (by
  intro Ls st b G h g
  split at h
  · rename_i x hx
    split at h
    · rename_i l' hl; cases h; exact Fx.via (fun _ => XS.iinc w.1 w.2 rfl hd hx hl) g
    · cases h
  · cases h)
def oBin (pc0 : Nat) (f : Int32 → Int32 → Int32) (hs : ∀ (x y : Int32) (r : List Value) (Ls : Array Slot) (G : Option Value → State → Prop), Go κ G T (pc0 + 1) Ls (.int (f x y) :: r) → Go κ G T pc0 Ls (.int y :: .int x :: r)) : Opn κ T := mkOp pc0 (fun Ls st => match st with | .int y :: .int x :: r => some (pc0 + 1, Ls, .int (f x y) :: r) | _ => none) (by
  intro Ls st b G h g
  split at h
  · cases h; exact hs _ _ _ _ _ g
  · cases h)
def oIadd (w : Ok κ T) (hd : decode κ.c.code pc0 = .ok (.iadd, 1)) : Opn κ T := oBin pc0 (fun x y => x + y) (fun _ _ _ _ _ g => Fx.via (fun _ => XS.iadd w.1 w.2 rfl hd rfl) g)
def oIsub (w : Ok κ T) (hd : decode κ.c.code pc0 = .ok (.isub, 1)) : Opn κ T := oBin pc0 (fun x y => x - y) (fun _ _ _ _ _ g => Fx.via (fun _ => XS.isub w.1 w.2 rfl hd rfl) g)
def oImul (w : Ok κ T) (hd : decode κ.c.code pc0 = .ok (.imul, 1)) : Opn κ T := oBin pc0 (fun x y => x * y) (fun _ _ _ _ _ g => Fx.via (fun _ => XS.imul w.1 w.2 rfl hd rfl) g)
def oIand (w : Ok κ T) (hd : decode κ.c.code pc0 = .ok (.iand, 1)) : Opn κ T := oBin pc0 (fun x y => x &&& y) (fun _ _ _ _ _ g => Fx.via (fun _ => XS.iand w.1 w.2 rfl hd rfl) g)
def oIor (w : Ok κ T) (hd : decode κ.c.code pc0 = .ok (.ior, 1)) : Opn κ T := oBin pc0 (fun x y => x ||| y) (fun _ _ _ _ _ g => Fx.via (fun _ => XS.ior w.1 w.2 rfl hd rfl) g)
def oIxor (w : Ok κ T) (hd : decode κ.c.code pc0 = .ok (.ixor, 1)) : Opn κ T := oBin pc0 (fun x y => x ^^^ y) (fun _ _ _ _ _ g => Fx.via (fun _ => XS.ixor w.1 w.2 rfl hd rfl) g)
def oIshl (w : Ok κ T) (hd : decode κ.c.code pc0 = .ok (.ishl, 1)) : Opn κ T := oBin pc0 (fun x y => x <<< (y &&& 31)) (fun _ _ _ _ _ g => Fx.via (fun _ => XS.ishl w.1 w.2 rfl hd rfl) g)
def oIshr (w : Ok κ T) (hd : decode κ.c.code pc0 = .ok (.ishr, 1)) : Opn κ T := oBin pc0 (fun x y => x >>> (y &&& 31)) (fun _ _ _ _ _ g => Fx.via (fun _ => XS.ishr w.1 w.2 rfl hd rfl) g)
def oIushr (w : Ok κ T) (hd : decode κ.c.code pc0 = .ok (.iushr, 1)) : Opn κ T := oBin pc0 (fun x y => (x.toUInt32 >>> (y &&& 31).toUInt32).toInt32) (fun _ _ _ _ _ g => Fx.via (fun _ => XS.iushr w.1 w.2 rfl hd rfl) g)
def oIrem (w : Ok κ T) (hd : decode κ.c.code pc0 = .ok (.irem, 1)) : Opn κ T := mkOp pc0 (fun Ls st => match st with | .int y :: .int x :: r => (match decEq y 0 with | isTrue _ => none | isFalse _ => some (pc0 + 1, Ls, .int (x % y) :: r)) | _ => none) (by
  intro Ls st b G h g
  split at h
  · split at h
    · cases h
    · rename_i x y r _ hy _; cases h
      refine Fx.via (fun _ z => XS.irem w.1 w.2 rfl hd rfl hy ?_) g
      have q := irem_eq_mod
      rw [q]; exact z
  · cases h)
def oUn (pc0 : Nat) (f : Int32 → Int32) (hs : ∀ (x : Int32) (r : List Value) (Ls : Array Slot) (G : Option Value → State → Prop), Go κ G T (pc0 + 1) Ls (.int (f x) :: r) → Go κ G T pc0 Ls (.int x :: r)) : Opn κ T := mkOp pc0 (fun Ls st => match st with | .int x :: r => some (pc0 + 1, Ls, .int (f x) :: r) | _ => none) (by
  intro Ls st b G h g
  split at h
  · cases h; exact hs _ _ _ _ g
  · cases h)
def oIneg (w : Ok κ T) (hd : decode κ.c.code pc0 = .ok (.ineg, 1)) : Opn κ T := oUn pc0 (fun x => -x) (fun _ _ _ _ g => Fx.via (fun _ => XS.ineg w.1 w.2 rfl hd rfl) g)
def oI2b (w : Ok κ T) (hd : decode κ.c.code pc0 = .ok (.i2b, 1)) : Opn κ T := oUn pc0 (fun x => x.toInt8.toInt32) (fun _ _ _ _ g => Fx.via (fun _ => XS.i2b w.1 w.2 rfl hd rfl) g)
def oI2c (w : Ok κ T) (hd : decode κ.c.code pc0 = .ok (.i2c, 1)) : Opn κ T := oUn pc0 (fun x => x.toUInt32.toUInt16.toUInt32.toInt32) (fun _ _ _ _ g => Fx.via (fun _ => XS.i2c w.1 w.2 rfl hd rfl) g)
def oI2s (w : Ok κ T) (hd : decode κ.c.code pc0 = .ok (.i2s, 1)) : Opn κ T := oUn pc0 (fun x => x.toInt16.toInt32) (fun _ _ _ _ g => Fx.via (fun _ => XS.i2s w.1 w.2 rfl hd rfl) g)
def oI2d (w : Ok κ T) (hd : decode κ.c.code pc0 = .ok (.i2d, 1)) : Opn κ T := mkOp pc0 (fun Ls st => match st with | .int x :: r => some (pc0 + 1, Ls, .double (FP.i2d x) :: r) | _ => none) (by
  intro Ls st b G h g
  split at h
  · cases h; exact Fx.via (fun _ => XS.i2dS w.1 w.2 rfl hd rfl rfl) g
  · cases h)
def oDup (w : Ok κ T) (hd : decode κ.c.code pc0 = .ok (.dup, 1)) : Opn κ T := mkOp pc0 (fun Ls st => match st with | .int x :: r => some (pc0 + 1, Ls, .int x :: .int x :: r) | .ref x :: r => some (pc0 + 1, Ls, .ref x :: .ref x :: r) | _ => none) (by
  intro Ls st b G h g
  split at h
  · cases h; exact Fx.via (fun _ => XS.dup w.1 w.2 rfl hd rfl rfl) g
  · cases h; exact Fx.via (fun _ => XS.dup w.1 w.2 rfl hd rfl rfl) g
  · cases h)
def oPop (w : Ok κ T) (hd : decode κ.c.code pc0 = .ok (.pop, 1)) : Opn κ T := mkOp pc0 (fun Ls st => match st with | .int x :: r => some (pc0 + 1, Ls, r) | .ref x :: r => some (pc0 + 1, Ls, r) | .null :: r => some (pc0 + 1, Ls, r) | _ => none) (by
  intro Ls st b G h g
  split at h
  · cases h; exact Fx.via (fun _ => XS.pop w.1 w.2 rfl hd rfl rfl) g
  · cases h; exact Fx.via (fun _ => XS.pop w.1 w.2 rfl hd rfl rfl) g
  · cases h; exact Fx.via (fun _ => XS.pop w.1 w.2 rfl hd rfl rfl) g
  · cases h)
def oGoto (w : Ok κ T) {o : Int} (pc' : Nat) (hd : decode κ.c.code pc0 = .ok (.goto o, 3)) (ho : 0 ≤ (pc0 : Int) + o := by decide) (hp : ((pc0 : Int) + o).toNat = pc' := by decide) : Opn κ T := mkOp pc0 (fun Ls st => some (pc', Ls, st)) (by
  intro Ls st b G h g; cases h; exact Fx.via (fun _ => XS.goto w.1 w.2 rfl rfl hd ho hp) g)
end Ops
section Branch
variable {κ : Cx} {G : Option Value → State → Prop} {T : State} {pc pc' : Nat} {Ls : Array Slot} {st : List Value} {x y : Int32} {o : Int}
theorem if_icmpG (w : Ok κ T) {cd : ClassFile.Cond} (hd : decode κ.c.code pc = .ok (.if_icmp cd o, 3)) (ho : 0 ≤ (pc : Int) + o) (hp : ((pc : Int) + o).toNat = pc') (hT : if_icmp.holds cd x y = true → Go κ G T pc' Ls st) (hF : if_icmp.holds cd x y = false → Go κ G T (pc + 3) Ls st) : Go κ G T pc Ls (.int y :: .int x :: st) := by
  cases hb : if_icmp.holds cd x y with
  | true => exact Fx.via (fun _ => XS.icmpYes w.1 w.2 rfl rfl hd rfl hb ho hp) (hT hb)
  | false => exact Fx.via (fun _ => XS.icmpNo w.1 w.2 rfl hd rfl hb) (hF hb)
theorem ifG (w : Ok κ T) {cd : ClassFile.Cond} (hd : decode κ.c.code pc = .ok (.ifCond cd o, 3)) (ho : 0 ≤ (pc : Int) + o) (hp : ((pc : Int) + o).toNat = pc') (hT : if_icmp.holds cd x 0 = true → Go κ G T pc' Ls st) (hF : if_icmp.holds cd x 0 = false → Go κ G T (pc + 3) Ls st) : Go κ G T pc Ls (.int x :: st) := by
  cases hb : if_icmp.holds cd x 0 with
  | true => exact Fx.via (fun _ => XS.ifYes w.1 w.2 rfl rfl hd rfl ((if0 cd x).trans hb) ho hp) (hT hb)
  | false => exact Fx.via (fun _ => XS.ifNo w.1 w.2 rfl hd rfl ((if0 cd x).trans hb)) (hF hb)
theorem h_eq {x y : Int32} : (if_icmp.holds .eq x y = true → x = y) ∧ (if_icmp.holds .eq x y = false → ¬ x = y) := ⟨fun h => Classical.byContradiction fun q => (by rw [(feq q).1] at h; cases h), fun h q => (by rw [(teq q).1] at h; cases h)⟩
theorem h_ne {x y : Int32} : (if_icmp.holds .ne x y = true → ¬ x = y) ∧ (if_icmp.holds .ne x y = false → x = y) := ⟨fun h q => (by rw [(teq q).2] at h; cases h), fun h => Classical.byContradiction fun q => (by rw [(feq q).2] at h; cases h)⟩
theorem h_lt {x y : Int32} : (if_icmp.holds .lt x y = true → x < y) ∧ (if_icmp.holds .lt x y = false → ¬ x < y) := ⟨fun h => Classical.byContradiction fun q => (by rw [(flt q).1] at h; cases h), fun h q => (by rw [(tlt q).1] at h; cases h)⟩
theorem h_ge {x y : Int32} : (if_icmp.holds .ge x y = true → ¬ x < y) ∧ (if_icmp.holds .ge x y = false → x < y) := ⟨fun h q => (by rw [(tlt q).2.1] at h; cases h), fun h => Classical.byContradiction fun q => (by rw [(flt q).2.1] at h; cases h)⟩
theorem h_gt {x y : Int32} : (if_icmp.holds .gt x y = true → y < x) ∧ (if_icmp.holds .gt x y = false → ¬ y < x) := ⟨fun h => Classical.byContradiction fun q => (by rw [(flt q).2.2.1] at h; cases h), fun h q => (by rw [(tlt q).2.2.1] at h; cases h)⟩
theorem h_le {x y : Int32} : (if_icmp.holds .le x y = true → ¬ y < x) ∧ (if_icmp.holds .le x y = false → y < x) := ⟨fun h q => (by rw [(tlt q).2.2.2] at h; cases h), fun h => Classical.byContradiction fun q => (by rw [(flt q).2.2.2] at h; cases h)⟩
theorem cEq (w : Ok κ T) (hd : decode κ.c.code pc = .ok (.if_icmp .eq o, 3)) (ho : 0 ≤ (pc : Int) + o) (hp : ((pc : Int) + o).toNat = pc') (hT : x = y → Go κ G T pc' Ls st) (hF : ¬ x = y → Go κ G T (pc + 3) Ls st) : Go κ G T pc Ls (.int y :: .int x :: st) := if_icmpG w hd ho hp (fun q => hT (h_eq.1 q)) (fun q => hF (h_eq.2 q))
theorem cNe (w : Ok κ T) (hd : decode κ.c.code pc = .ok (.if_icmp .ne o, 3)) (ho : 0 ≤ (pc : Int) + o) (hp : ((pc : Int) + o).toNat = pc') (hT : ¬ x = y → Go κ G T pc' Ls st) (hF : x = y → Go κ G T (pc + 3) Ls st) : Go κ G T pc Ls (.int y :: .int x :: st) := if_icmpG w hd ho hp (fun q => hT (h_ne.1 q)) (fun q => hF (h_ne.2 q))
theorem cLt (w : Ok κ T) (hd : decode κ.c.code pc = .ok (.if_icmp .lt o, 3)) (ho : 0 ≤ (pc : Int) + o) (hp : ((pc : Int) + o).toNat = pc') (hT : x < y → Go κ G T pc' Ls st) (hF : ¬ x < y → Go κ G T (pc + 3) Ls st) : Go κ G T pc Ls (.int y :: .int x :: st) := if_icmpG w hd ho hp (fun q => hT (h_lt.1 q)) (fun q => hF (h_lt.2 q))
theorem cGe (w : Ok κ T) (hd : decode κ.c.code pc = .ok (.if_icmp .ge o, 3)) (ho : 0 ≤ (pc : Int) + o) (hp : ((pc : Int) + o).toNat = pc') (hT : ¬ x < y → Go κ G T pc' Ls st) (hF : x < y → Go κ G T (pc + 3) Ls st) : Go κ G T pc Ls (.int y :: .int x :: st) := if_icmpG w hd ho hp (fun q => hT (h_ge.1 q)) (fun q => hF (h_ge.2 q))
theorem cGt (w : Ok κ T) (hd : decode κ.c.code pc = .ok (.if_icmp .gt o, 3)) (ho : 0 ≤ (pc : Int) + o) (hp : ((pc : Int) + o).toNat = pc') (hT : y < x → Go κ G T pc' Ls st) (hF : ¬ y < x → Go κ G T (pc + 3) Ls st) : Go κ G T pc Ls (.int y :: .int x :: st) := if_icmpG w hd ho hp (fun q => hT (h_gt.1 q)) (fun q => hF (h_gt.2 q))
theorem cLe (w : Ok κ T) (hd : decode κ.c.code pc = .ok (.if_icmp .le o, 3)) (ho : 0 ≤ (pc : Int) + o) (hp : ((pc : Int) + o).toNat = pc') (hT : ¬ y < x → Go κ G T pc' Ls st) (hF : y < x → Go κ G T (pc + 3) Ls st) : Go κ G T pc Ls (.int y :: .int x :: st) := if_icmpG w hd ho hp (fun q => hT (h_le.1 q)) (fun q => hF (h_le.2 q))
theorem zEq (w : Ok κ T) (hd : decode κ.c.code pc = .ok (.ifCond .eq o, 3)) (ho : 0 ≤ (pc : Int) + o) (hp : ((pc : Int) + o).toNat = pc') (hT : x = 0 → Go κ G T pc' Ls st) (hF : ¬ x = 0 → Go κ G T (pc + 3) Ls st) : Go κ G T pc Ls (.int x :: st) := ifG w hd ho hp (fun q => hT (h_eq.1 q)) (fun q => hF (h_eq.2 q))
theorem zNe (w : Ok κ T) (hd : decode κ.c.code pc = .ok (.ifCond .ne o, 3)) (ho : 0 ≤ (pc : Int) + o) (hp : ((pc : Int) + o).toNat = pc') (hT : ¬ x = 0 → Go κ G T pc' Ls st) (hF : x = 0 → Go κ G T (pc + 3) Ls st) : Go κ G T pc Ls (.int x :: st) := ifG w hd ho hp (fun q => hT (h_ne.1 q)) (fun q => hF (h_ne.2 q))
theorem zLt (w : Ok κ T) (hd : decode κ.c.code pc = .ok (.ifCond .lt o, 3)) (ho : 0 ≤ (pc : Int) + o) (hp : ((pc : Int) + o).toNat = pc') (hT : x < 0 → Go κ G T pc' Ls st) (hF : ¬ x < 0 → Go κ G T (pc + 3) Ls st) : Go κ G T pc Ls (.int x :: st) := ifG w hd ho hp (fun q => hT (h_lt.1 q)) (fun q => hF (h_lt.2 q))
theorem zGe (w : Ok κ T) (hd : decode κ.c.code pc = .ok (.ifCond .ge o, 3)) (ho : 0 ≤ (pc : Int) + o) (hp : ((pc : Int) + o).toNat = pc') (hT : ¬ x < 0 → Go κ G T pc' Ls st) (hF : x < 0 → Go κ G T (pc + 3) Ls st) : Go κ G T pc Ls (.int x :: st) := ifG w hd ho hp (fun q => hT (h_ge.1 q)) (fun q => hF (h_ge.2 q))
theorem zGt (w : Ok κ T) (hd : decode κ.c.code pc = .ok (.ifCond .gt o, 3)) (ho : 0 ≤ (pc : Int) + o) (hp : ((pc : Int) + o).toNat = pc') (hT : 0 < x → Go κ G T pc' Ls st) (hF : ¬ 0 < x → Go κ G T (pc + 3) Ls st) : Go κ G T pc Ls (.int x :: st) := ifG w hd ho hp (fun q => hT (h_gt.1 q)) (fun q => hF (h_gt.2 q))
theorem zLe (w : Ok κ T) (hd : decode κ.c.code pc = .ok (.ifCond .le o, 3)) (ho : 0 ≤ (pc : Int) + o) (hp : ((pc : Int) + o).toNat = pc') (hT : ¬ 0 < x → Go κ G T pc' Ls st) (hF : 0 < x → Go κ G T (pc + 3) Ls st) : Go κ G T pc Ls (.int x :: st) := ifG w hd ho hp (fun q => hT (h_le.1 q)) (fun q => hF (h_le.2 q))
theorem nnRef (w : Ok κ T) {a : Addr} (hd : decode κ.c.code pc = .ok (.ifnonnull o, 3)) (ho : 0 ≤ (pc : Int) + o) (hp : ((pc : Int) + o).toNat = pc') (g : Go κ G T pc' Ls st) : Go κ G T pc Ls (.ref a :: st) := Fx.via (fun _ => XT.nonnullYes w.1 w.2 rfl rfl hd rfl rfl (fun q => nomatch q) ho hp) g
theorem nnNull (w : Ok κ T) (hd : decode κ.c.code pc = .ok (.ifnonnull o, 3)) (g : Go κ G T (pc + 3) Ls st) : Go κ G T pc Ls (.null :: st) := Fx.via (fun _ => XT.nonnullNo w.1 w.2 rfl hd rfl rfl) g
theorem nuNull (w : Ok κ T) (hd : decode κ.c.code pc = .ok (.ifnull o, 3)) (ho : 0 ≤ (pc : Int) + o) (hp : ((pc : Int) + o).toNat = pc') (g : Go κ G T pc' Ls st) : Go κ G T pc Ls (.null :: st) := Fx.via (fun _ => XS.ifnullYes w.1 w.2 rfl rfl hd rfl ho hp) g
theorem nuRef (w : Ok κ T) {a : Addr} (hd : decode κ.c.code pc = .ok (.ifnull o, 3)) (g : Go κ G T (pc + 3) Ls st) : Go κ G T pc Ls (.ref a :: st) := Fx.via (fun _ => XS.ifnullNo w.1 w.2 rfl hd rfl) g
theorem aloadV (w : Ok κ T) {k : Nat} {v : Value} (hd : decode κ.c.code pc = .ok (.aload k, 2)) (hl : Ls[k]? = some (.val v)) (hv : v.isRef = true) (g : Go κ G T (pc + 2) Ls (v :: st)) : Go κ G T pc Ls st := Fx.via (fun _ => XS.aload w.1 w.2 rfl hd hl hv) g
theorem aloadNV (w : Ok κ T) {k : Fin 4} {v : Value} (hd : decode κ.c.code pc = .ok (.aload_n k, 1)) (hl : Ls[k.val]? = some (.val v)) (hv : v.isRef = true) (g : Go κ G T (pc + 1) Ls (v :: st)) : Go κ G T pc Ls st := Fx.via (fun _ => XS.aloadN w.1 w.2 rfl hd hl hv) g
theorem astoreV (w : Ok κ T) {k : Nat} {v : Value} {l' : Array Slot} (hd : decode κ.c.code pc = .ok (.astore k, 2)) (hv : v.isRef = true) (hl : storeLocals Ls k v = some l') (g : Go κ G T (pc + 2) l' st) : Go κ G T pc Ls (v :: st) := Fx.via (fun _ => XS.astore w.1 w.2 rfl hd rfl hv hl) g
theorem astoreNV (w : Ok κ T) {k : Fin 4} {v : Value} {l' : Array Slot} (hd : decode κ.c.code pc = .ok (.astore_n k, 1)) (hv : v.isRef = true) (hl : storeLocals Ls k.val v = some l') (g : Go κ G T (pc + 1) l' st) : Go κ G T pc Ls (v :: st) := Fx.via (fun _ => XS.astoreN w.1 w.2 rfl hd rfl hv hl) g
theorem istoreG (w : Ok κ T) {k : Nat} {o' : Slot} (hd : decode κ.c.code pc = .ok (.istore k, 2)) (hold : Ls[k]? = some o') (ho : One o') (g : Go κ G T (pc + 2) (Ls.setIfInBounds k (.val (.int x))) st) : Go κ G T pc Ls (.int x :: st) := Fx.via (fun _ => XS.istoreS w.1 w.2 rfl hd rfl hold ho) g
theorem istoreNG (w : Ok κ T) {k : Fin 4} {o' : Slot} (hd : decode κ.c.code pc = .ok (.istore_n k, 1)) (hold : Ls[k.val]? = some o') (ho : One o') (g : Go κ G T (pc + 1) (Ls.setIfInBounds k.val (.val (.int x))) st) : Go κ G T pc Ls (.int x :: st) := Fx.via (fun _ => XS.istoreNS w.1 w.2 rfl hd rfl hold ho) g
theorem astoreG (w : Ok κ T) {k : Nat} {o' : Slot} {a : Addr} (hd : decode κ.c.code pc = .ok (.astore k, 2)) (hold : Ls[k]? = some o') (ho : One o') (g : Go κ G T (pc + 2) (Ls.setIfInBounds k (.val (.ref a))) st) : Go κ G T pc Ls (.ref a :: st) := Fx.via (fun _ => XS.astoreS w.1 w.2 rfl hd rfl rfl rfl hold ho) g
end Branch
end Jvm.WK
namespace Jvm.WK
open Sem ClassFile Op Lib Jvm.Stand Jvm.Free Jvm.LawKit Jvm.RoadKit Bundle
theorem wd {L : List Jvm.Cond} {a0 : Array Value} {Z : State} (hw : ∀ d ∈ L, d.before a0 Z = true) (k : Nat) {d : Jvm.Cond} (h : L[k]? = some d) : d.before a0 Z = true := hw d (List.mem_of_getElem? h)
/-- an array of ints (or chars, bytes ..) with its values -/
def Ary (Z : State) (h : Heap) (a : Addr) (ty : FieldType) (vs : List Int32) : Prop :=
  ∃ c : Cell, Arr Z h a c ty ∧ c.slots.toList = vs.map Value.int ∧ vs.length < 2147483648 ∧ ∀ v ∈ vs, fits ty (.int v) = true
section AryFacts
variable {Z : State} {h h' : Heap} {a b : Addr} {ty : FieldType} {vs : List Int32} {ws : List Addr} {sl : Nat} {v : Value}
theorem Ary.lt (F : Ary Z h a ty vs) : a < h.size := by obtain ⟨c, A, -⟩ := F; exact A.lt
theorem Ary.ext (E : Ext h h') (F : Ary Z h a ty vs) : Ary Z h' a ty vs := by obtain ⟨c, A, r⟩ := F; exact ⟨c, A.ext E, r⟩
theorem Ary.other (W : Wr h h' b sl v) (F : Ary Z h a ty vs) (q : a ≠ b) : Ary Z h' a ty vs := by obtain ⟨c, A, r⟩ := F; exact ⟨c, A.other W q, r⟩
theorem Ary.keep (K : Keep h h' ws) (F : Ary Z h a ty vs) (q : a ∉ ws) : Ary Z h' a ty vs := by obtain ⟨c, A, r⟩ := F; exact ⟨c, ⟨K.2.1 a c A.1 q, A.2⟩, r⟩
theorem Ary.small (F : Ary Z h a ty vs) : vs.length < 2147483648 := by obtain ⟨c, A, r1, r2, -⟩ := F; exact r2
theorem Ary.fit (F : Ary Z h a ty vs) : ∀ v ∈ vs, fits ty (.int v) = true := by obtain ⟨c, A, r1, r2, r3⟩ := F; exact r3
theorem clamp_ofNat {i : Nat} (h : i < 2147483648) : (Int32.ofNat i).toNatClampNeg = i := by
  have h1 : (Int32.ofNat i).toInt = (i : Int) := Int32.toInt_ofNat_small (by omega)
  show (Int32.ofNat i).toInt.toNat = i
  rw [h1]; rfl
theorem nneg_ofNat {i : Nat} (h : i < 2147483648) : ¬ (Int32.ofNat i) < 0 := by
  have h1 : (Int32.ofNat i).toInt = (i : Int) := Int32.toInt_ofNat_small (by omega)
  rw [Int32.lt_iff_toInt_lt, h1]
  show ¬ ((i : Int) < 0)
  omega
theorem Ary.inb {c : Cell} {i : Nat} (hs : c.slots.toList = vs.map Value.int) (hl : vs.length < 2147483648) (hi : i < vs.length) : ¬ (Int32.ofNat i < 0 ∨ c.slots.size ≤ (Int32.ofNat i).toNatClampNeg) := by
  have hz : c.slots.size = vs.length := by
    have := congrArg List.length hs
    simpa using this
  rw [clamp_ofNat (by omega)]
  have := nneg_ofNat (i := i) (by omega)
  exact fun q => q.elim this (fun q => by omega)
theorem Ary.at {c : Cell} {i : Nat} (hs : c.slots.toList = vs.map Value.int) (hl : vs.length < 2147483648) (hi : i < vs.length) {x : Int32} (hx : vs[i]? = some x) : c.slots[(Int32.ofNat i).toNatClampNeg]? = some (.int x) := by
  rw [clamp_ofNat (by omega)]
  have : c.slots[i]? = c.slots.toList[i]? := by simp
  rw [this, hs]
  simp [hx]
theorem Ary.arv (F : Ary Z h a ty vs) : ∃ k, Arv Z h a k ty (Int32.ofNat vs.length) (vs.map Value.int) (.int 0) := by
  obtain ⟨c, A, r1, r2, r3⟩ := F
  have hz : c.slots.size = vs.length := by
    have := congrArg List.length r1
    simpa using this
  have H : Has c (vs.map Value.int) (.int 0) := fun k hk => by
    have : c.slots[k]? = c.slots.toList[k]? := by simp
    rw [this, r1]
    have hk' : k < vs.length := by omega
    simp [List.getD, hk']
  refine ⟨c.cls, c, A, rfl, by rw [hz, clamp_ofNat r2], nneg_ofNat r2, H, fun i hi => ?_⟩
  have hi' : i < vs.length := by omega
  simp only [List.getD, List.getElem?_map, List.getElem?_eq_getElem hi', Option.map_some, Option.getD_some]
  exact r3 _ (List.getElem_mem hi')
theorem Ary.of_arv {k : ClassId} {z : Int32} (hz : z.toNatClampNeg = vs.length) (F : Arv Z h a k ty z (vs.map Value.int) (.int 0)) : Ary Z h a ty vs := by
  obtain ⟨c, A, r1, r2, r3, H, r4⟩ := F
  have hs : c.slots.size = vs.length := r2.trans hz
  have hb := (back32 r3).2
  refine ⟨c, A, ?_, by omega, fun v hv => ?_⟩
  · apply List.ext_getElem?
    intro i
    by_cases hi : i < c.slots.size
    · have := H i hi
      have e : c.slots[i]? = c.slots.toList[i]? := by simp
      rw [← e, this]
      have hi' : i < vs.length := by omega
      simp [List.getD, hi']
    · rw [List.getElem?_eq_none (by simpa using Nat.le_of_not_lt hi), List.getElem?_eq_none (by simp; omega)]
  · obtain ⟨i, hi, rfl⟩ := List.getElem_of_mem hv
    have := r4 i (by omega)
    simpa [List.getD, hi] using this
theorem Ary.set {x : Int32} {i : Nat} (F : Ary Z h a ty vs) (hi : i < vs.length) (hx : fits ty (.int x) = true) (Wq : Wr h h' a (Int32.ofNat i).toNatClampNeg (.int x)) : Ary Z h' a ty (vs.set i x) := by
  obtain ⟨c, A, r1, r2, r3⟩ := F
  refine ⟨c.setSlot (Int32.ofNat i).toNatClampNeg (.int x), A.same Wq, ?_, by simpa using r2, fun v hv => ?_⟩
  · rw [clamp_ofNat (by omega)]
    simp [Cell.setSlot, r1, List.map_set]
  · rcases List.mem_or_eq_of_mem_set hv with q | q
    · exact r3 v q
    · rw [q]; exact hx
theorem Ary.new {k : ClassId} {z : Int32} {n : Nat} (A : Arr Z h a (newA k ty z) ty) (hn : z.toNatClampNeg = n) (hb : n < 2147483648) (hd : defaultValue ty = .int 0) (hf : fits ty (.int 0) = true) : Ary Z h a ty (List.replicate n 0) := by
  refine ⟨_, A, by simp [newA, hn, hd], by simpa using hb, fun v hv => ?_⟩
  rw [(List.mem_replicate.mp hv).2]; exact hf
theorem Ary.ne_ty {ty' : FieldType} {vs' : List Int32} (F : Ary Z h a ty vs) (F' : Ary Z h b ty' vs') (q : ty ≠ ty') : a ≠ b := fun e => by
  subst e
  obtain ⟨c, ⟨A1, ⟨-, k, A2, comp, A3⟩, -⟩, -⟩ := F
  obtain ⟨c', ⟨B1, ⟨-, k', B2, comp', B3⟩, -⟩, -⟩ := F'
  cases A1.symm.trans B1
  cases A2.symm.trans B2
  rw [A3] at B3
  cases B3; exact q rfl
theorem Ary.safe {EL : List (String × Nat)} {vm : Vm} (hal : Z.vm.Alike vm) (F : Ary Z h a ty vs) (q : ty ≠ .byte) : Safe Z EL vm h a := by obtain ⟨c, A, -⟩ := F; exact Safe.arr hal A q
end AryFacts
theorem safe_nil {Z : State} {vm : Vm} {h : Heap} {x : Addr} : Safe Z [] vm h x := fun B => by obtain ⟨p, hp, -⟩ := B; cases hp
/-- where the walk stands: s the invocation's start, vm the tables of its last interning, Z the case's start -/
def W (κ : Cx) (l : Launch) (R : Room) (Z : State) (EL : List (String × Nat)) (own nm : String) (mx : Nat) (rt : Option FieldType) (vm : Vm) (T : State) (h : Heap) (k n : Nat) : Prop :=
  (κ.p.tables.exec = Jvm.exec ∧ κ.c.maxLocals = mx ∧ κ.M.sig.returnType = rt ∧ κ.M.locks = false ∧ κ.M.name = nm ∧ ∃ a0, EW Z a0 EL) ∧
  ∃ (locs : List Loc) (k0 : Nat), Stand κ.p l κ.e R (κ.s.setVm vm) κ.m κ.a κ.b κ.M κ.c T locs k n ∧ T.heap = h ∧ κ.s.Since vm k0 ∧ k0 ≤ h.size ∧ Z.Warmed39 vm ∧ vm.findClass own = some κ.m.cls ∧ Fr Z.heap.size locs ∧ CHr Z EL κ.s.vm κ.s.heap vm h
/-- what an invocation owes at its end -/
def GQ (κ : Cx) (Z : State) (EL : List (String × Nat)) (rm : Room) (Q : Option Value → Heap → (Addr → Prop) → Prop) : Option Value → State → Prop :=
  fun v B => ∃ L, (Q v B.heap (Safe Z EL B.vm B.heap) ∧ Fr Z.heap.size L) ∧ CHr Z EL κ.s.vm κ.s.heap B.vm B.heap ∧ ReturnedEndW κ.s (.returned v) B L rm.cells rm.slots
/-- a contract -/
def Ctr (l : Launch) (Z : State) (EL : List (String × Nat)) (y : MethodName) (bytes : ByteArray) (maxL : Nat) (ret : Option FieldType) (ws : List Jvm.Cond) (rm : Room) (sf : List Addr) (as' : Array Value) (h : Heap) (Q : Option Value → Heap → (Addr → Prop) → Prop) : Prop :=
  MetFree l y (head1 (Jvm.Cond.code y bytes maxL ret :: ws) rm) (fun a U => a = as' ∧ Z.Warmed39 U.vm ∧ U.heap = h ∧ CHv Z EL U.vm h ∧ ∀ x ∈ sf, Safe Z EL U.vm h x) (fun _ _ _ _ _ => True) (fun _ U o U' => ∃ v L, o = .returned v ∧ (Q v U'.heap (Safe Z EL U'.vm U'.heap) ∧ Fr Z.heap.size L) ∧ CHr Z EL U.vm U.heap U'.vm U'.heap ∧ ReturnedEndW U o U' L rm.cells rm.slots)
theorem enter {l : Launch} {Z : State} {EL : List (String × Nat)} {y : MethodName} {bytes : ByteArray} {maxL : Nat} {ret : Option FieldType} {ws : List Jvm.Cond} {rm : Room} {sf : List Addr} {as' : Array Value} {h : Heap} {Q : Option Value → Heap → (Addr → Prop) → Prop} {a0 : Array Value} (hpl : plainName y.cls = true) (hEL : EW Z a0 EL) {Ls : Array Slot} (hef : ∀ m, entryFrame m as' maxL = mkF m 0 Ls [])
    (body : ∀ (κ : Cx) (vm : Vm) (T : State), κ.c.code = bytes → κ.s.heap = h → W κ l rm Z EL y.cls y.name maxL ret vm T h 0 0 → (∀ x ∈ sf, Safe Z EL vm h x) → Go κ (GQ κ Z EL rm Q) T 0 Ls []) : Ctr l Z EL y bytes maxL ret ws rm sf as' h Q := by
  refine MetFree.of_bodySF (plainFor_of_name hpl) hisR ?_
  intro p e s m args below meth c s₁ Bd hml hP hK
  obtain ⟨rfl, hZ, hh, hC, hSf⟩ := hP
  have hown : s.vm.findClass y.cls = some m.cls := findClass_of_methodNamed Bd.named
  have hnm := (name_of_methodNamed Bd.named Bd.method).1
  have X0 : Stand p l e rm s m args below meth c s₁ [] 0 0 := Stand.of_body Bd
  have e0 : s₁.heap = h := by rw [← hh, Bd.state]; rfl
  have w : W (p, e, s, m, args, below, meth, c) l rm Z EL y.cls y.name maxL ret s.vm s₁ h 0 0 :=
    ⟨⟨Bd.exec, hml, Bd.returns, Bd.notSynchronized, hnm, a0, hEL⟩, [], s.heap.size, X0, e0, (State.WarmedH.refl s).since _, by rw [hh]; exact Nat.le_refl _, hZ, hown, Fr.nil _, by rw [hh]; exact CHr.refl hC⟩
  obtain ⟨v, B, h1, h2, h3, L, h4, h5, h6⟩ := body (p, e, s, m, args, below, meth, c) s.vm s₁ Bd.bytes hh w hSf
  refine ⟨B, .returned v, castTop (hef m) h1, h2, h3, v, L, rfl, h4, h5, h6⟩
section Laws
variable {κ : Cx} {l : Launch} {R : Room} {Z : State} {EL : List (String × Nat)} {own nm : String} {mx : Nat} {rt : Option FieldType} {vm : Vm} {T : State} {h : Heap} {k n : Nat} {G : Option Value → State → Prop} {a0 : Array Value} {pc : Nat} {Ls : Array Slot} {st : List Value}
theorem W.ok (w : W κ l R Z EL own nm mx rt vm T h k n) : Ok κ T := by obtain ⟨w1, _, _, X, -⟩ := w; exact ⟨X.here, w1.1⟩
theorem W.chv (w : W κ l R Z EL own nm mx rt vm T h k n) : CHv Z EL vm h := by obtain ⟨w1, _, _, X, -, -, -, -, -, -, C⟩ := w; exact C.1
theorem W.warm (w : W κ l R Z EL own nm mx rt vm T h k n) : Z.Warmed39 vm := by obtain ⟨w1, _, _, X, -, -, -, hZ, -⟩ := w; exact hZ
theorem W.alike (w : W κ l R Z EL own nm mx rt vm T h k n) : Z.vm.Alike vm := w.warm.alike
theorem W.mono (w : W κ l R Z EL own nm mx rt vm T h k n) {k' n' : Nat} (hk : k ≤ k') (hn : n ≤ n') : W κ l R Z EL own nm mx rt vm T h k' n' := by
  obtain ⟨w1, L, k0, X, r⟩ := w; exact ⟨w1, L, k0, X.mono hk hn, r⟩
theorem W.heap (w : W κ l R Z EL own nm mx rt vm T h k n) : T.heap = h := by obtain ⟨w1, _, _, X, e, -⟩ := w; exact e
/-- all that stood at the case's start stands as it was -/
theorem W.old (w : W κ l R Z EL own nm mx rt vm T h k n) (o : Ext Z.heap κ.s.heap) : Ext Z.heap h := by
  obtain ⟨w1, L, k0, X, e, -, -, -, -, N, -⟩ := w
  subst e
  refine ⟨Nat.le_trans o.1 X.same.2.1, fun b cl hb => ?_⟩
  obtain ⟨c', h1, h2, -, h4⟩ := X.same.2.2.2.2.2 b cl (o.2 _ _ hb)
  have hlt := (Array.getElem?_eq_some_iff.mp hb).1
  have hsl : c'.slots = cl.slots := Array.ext_getElem? fun i => h4 i fun hm => absurd (N _ hm) (Nat.not_le.mpr hlt)
  have hcc : c' = cl := by rw [h2, hsl]
  rw [← hcc]; exact h1
/-- a step that keeps vm: the heap only grows -/
theorem W.grow {T' : State} {h' : Heap} {k' n' : Nat} (w : W κ l R Z EL own nm mx rt vm T h k n) (E : Ext h h') (eT : T'.heap = h') (hX : ∀ locs, Stand κ.p l κ.e R (κ.s.setVm vm) κ.m κ.a κ.b κ.M κ.c T locs k n → Stand κ.p l κ.e R (κ.s.setVm vm) κ.m κ.a κ.b κ.M κ.c T' locs k' n') : W κ l R Z EL own nm mx rt vm T' h' k' n' := by
  obtain ⟨w1, L, k0, X, e, hS, hk, hZ, ho, N, C⟩ := w
  exact ⟨w1, L, k0, hX L X, eT, hS, Nat.le_trans hk E.1, hZ, ho, N, C.trans (CHr.ext E C.1)⟩
theorem W.wrote {T' : State} {h' : Heap} {a : Addr} {sl : Nat} {v : Value} {locs : List Loc} {k0 : Nat} (w : W κ l R Z EL own nm mx rt vm T h k n) (hS : κ.s.Since vm k0) (hk : k0 ≤ h.size) (N : Fr Z.heap.size locs) (X : Stand κ.p l κ.e R (κ.s.setVm vm) κ.m κ.a κ.b κ.M κ.c T' (locs ++ [⟨a, sl⟩]) k n) (eT : T'.heap = h') (Wq : Wr h h' a sl v) (S : Safe Z EL vm h a) (ha : Z.heap.size ≤ a) : W κ l R Z EL own nm mx rt vm T' h' k n := by
  obtain ⟨w1, -, -, -, -, -, -, hZ, ho, -, C⟩ := w
  exact ⟨w1, _, k0, X, eT, hS, by rw [Wq.size]; exact hk, hZ, ho, Fr.snoc X N ha, C.trans (CHr.wr Wq S C.1)⟩
theorem W.new (w : W κ l R Z EL own nm mx rt vm T h k n) {C : String} {index sz : Nat} (w1 : (Cond.classLink own index C).before a0 Z = true) (w2 : (Cond.instantiable C sz).before a0 Z = true) (w3 : (Cond.initialized C).before a0 Z = true)
    (hd : decode κ.c.code pc = .ok (.new index, 3)) (hc : k + 1 ≤ R.cells) (hl : n + sz ≤ R.slots)
    (g : ∀ (T' : State) (h' : Heap) (x : Addr), W κ l R Z EL own nm mx rt vm T' h' (k + 1) (n + sz) → x = h.size → Ext h h' → Exa Z h' x C → (∀ {O nm' d : String} {ty : FieldType}, Laid Z a0 C O nm' d → parseFieldDescriptor d = some ty → Fld Z h' x O nm' d (defaultValue ty)) → Safe Z EL vm h' x → Go κ G T' (pc + 3) Ls (.ref x :: st)) : Go κ G T pc Ls st := by
  have w0 := w
  obtain ⟨q1, L, k0, X, e, hS, hk, hZ, ho, N, CC⟩ := w
  obtain ⟨T', h', X', e', E, A, D, -, stp⟩ := newO X q1.1 hZ ho w1 w2 w3 e (g := mkF κ.m pc Ls st) rfl hd hc hl
  exact Fx.via stp (g T' h' h.size ⟨q1, L, k0, X', e', hS, Nat.le_trans hk E.1, hZ, ho, N, CC.trans (CHr.ext E CC.1)⟩ rfl E A D (Safe.ext E w0.chv (Safe.new (Nat.le_refl _))))
theorem W.newarr (w : W κ l R Z EL own nm mx rt vm T h k n) {aty : ArrayType} (w1 : (Cond.arrayClass (newarray.typeOf aty)).before a0 Z = true) {z : Int32} {c : Nat} (hd : decode κ.c.code pc = .ok (.newarray aty, 2)) (hn : ¬ z < 0) (hz : z.toNatClampNeg = c) {cap : Nat} (hcap : c ≤ cap) (hb : cap * 8 ≤ 536870912) (hc : k + 1 ≤ R.cells) (hl : n + cap ≤ R.slots) (hdv : defaultValue (newarray.typeOf aty) = .int 0) (hf : fits (newarray.typeOf aty) (.int 0) = true)
    (g : ∀ (T' : State) (h' : Heap) (x : Addr), W κ l R Z EL own nm mx rt vm T' h' (k + 1) (n + cap) → x = h.size → Ext h h' → Ary Z h' x (newarray.typeOf aty) (List.replicate c 0) → Safe Z EL vm h' x → Go κ G T' (pc + 2) Ls (.ref x :: st)) : Go κ G T pc Ls (.int z :: st) := by
  have w0 := w
  obtain ⟨q1, L, k0, X, e, hS, hk, hZ, ho, N, CC⟩ := w
  obtain ⟨T', h', cA, X', e', E, A, stp⟩ := newP X q1.1 hZ w1 e (g := mkF κ.m pc Ls (.int z :: st)) rfl hd rfl hn (by rw [hz]; exact hcap) hb hc hl
  exact Fx.via stp (g T' h' h.size ⟨q1, L, k0, X', e', hS, Nat.le_trans hk E.1, hZ, ho, N, CC.trans (CHr.ext E CC.1)⟩ rfl E (Ary.new A hz (by omega) hdv hf) (Safe.ext E w0.chv (Safe.new (Nat.le_refl _))))
theorem W.get (w : W κ l R Z EL own nm mx rt vm T h k n) {O f d : String} {index : Nat} (w1 : (Cond.fieldLink own index O f d).before a0 Z = true) {a : Addr} {v : Value} (F : Fld Z h a O f d v) (hd : decode κ.c.code pc = .ok (.getfield index, 3))
    (g : ∀ T' : State, W κ l R Z EL own nm mx rt vm T' h k n → Go κ G T' (pc + 3) Ls (v :: st)) : Go κ G T pc Ls (.ref a :: st) := by
  obtain ⟨q1, L, k0, X, e, hS, hk, hZ, ho, N, CC⟩ := w
  obtain ⟨T', X', e', stp⟩ := getF X q1.1 hZ ho (host := "") (Or.inl w1) Via.refl e F (g := mkF κ.m pc Ls (.ref a :: st)) rfl rfl hd
  exact Fx.via stp (g T' ⟨q1, L, k0, X', e', hS, hk, hZ, ho, N, CC⟩)
theorem W.gets (w : W κ l R Z EL own nm mx rt vm T h k n) {O f d : String} {index : Nat} (w1 : (Cond.fieldLink own index O f d).before a0 Z = true) {v : Value} (F : Sta Z h O f d v) (hd : decode κ.c.code pc = .ok (.getstatic index, 3))
    (g : ∀ T' : State, W κ l R Z EL own nm mx rt vm T' h k n → Go κ G T' (pc + 3) Ls (v :: st)) : Go κ G T pc Ls st := by
  obtain ⟨q1, L, k0, X, e, hS, hk, hZ, ho, N, CC⟩ := w
  obtain ⟨T', X', e', stp⟩ := getS X q1.1 hZ ho (host := "") w1 Via.refl e F (g := mkF κ.m pc Ls st) rfl hd
  exact Fx.via stp (g T' ⟨q1, L, k0, X', e', hS, hk, hZ, ho, N, CC⟩)
theorem W.put (w : W κ l R Z EL own nm mx rt vm T h k n) {O f d C : String} {index kk : Nat} {ty : FieldType} (w1 : (Cond.fieldLink own index O f d).before a0 Z = true) {a : Addr} {v old : Value} (F : Fld Z h a O f d old) (E : Exa Z h a C) (Lw : (Cond.lays C O f d).before a0 Z = true ∨ ((Cond.laysFinal C O f d).before a0 Z = true ∧ own = O ∧ nm = "<init>")) (wi : (Cond.instantiable C kk).before a0 Z = true)
    (hty : parseFieldDescriptor d = some ty) (hn : narrow ty v = v) (hf : fits ty v = true) (S : Safe Z EL vm h a) (ha : Z.heap.size ≤ a) (hd : decode κ.c.code pc = .ok (.putfield index, 3))
    (g : ∀ (T' : State) (h' : Heap), W κ l R Z EL own nm mx rt vm T' h' k n → Wr h h' a (RoadKit.slotOf Z O f d) v → Safe Z EL vm h' a → Go κ G T' (pc + 3) Ls st) : Go κ G T pc Ls (v :: .ref a :: st) := by
  have w0 := w
  obtain ⟨q1, L, k0, X, e, hS, hk, hZ, ho, N, CC⟩ := w
  obtain ⟨T', h', X', e', Wq, stp⟩ := putF X q1.1 hZ ho (host := "") (Or.inl w1) Via.refl e F E (Lw.imp id fun q => ⟨q.1, q.2.1, by rw [q1.2.2.2.2.1]; exact q.2.2⟩) wi hty hn hf (g := mkF κ.m pc Ls (v :: .ref a :: st)) rfl rfl hd
  exact Fx.via stp (g T' h' (w0.wrote hS hk N X' e' Wq S ha) Wq (Safe.wr Wq S w0.chv S))
theorem W.cst (w : W κ l R Z EL own nm mx rt vm T h k n) {a : Addr} {vs : List Int32} (A : Ary Z h a .char vs) {i : Nat} {j x x' : Int32} (hj : j = Int32.ofNat i) (hi : i < vs.length) (hx : nar .char x = x') (hf : fits .char (.int x') = true) (ha : Z.heap.size ≤ a) (hd : decode κ.c.code pc = .ok (.castore, 1))
    (g : ∀ (T' : State) (h' : Heap), W κ l R Z EL own nm mx rt vm T' h' k n → (∃ sl v, Wr h h' a sl v) → Ary Z h' a .char (vs.set i x') → Go κ G T' (pc + 1) Ls st) : Go κ G T pc Ls (.int x :: .int j :: .ref a :: st) := by
  have w0 := w
  have A0 := A
  subst hj hx
  obtain ⟨q1, L, k0, X, e, hS, hk, hZ, ho, N, CC⟩ := w
  obtain ⟨c, A1, r1, r2, -⟩ := A
  obtain ⟨T', h', X', e', Wq, stp⟩ := stC X q1.1 hZ e A1 (Ary.inb r1 r2 hi) (g := mkF κ.m pc Ls (.int x :: .int (Int32.ofNat i) :: .ref a :: st)) rfl rfl hd
  exact Fx.via stp (g T' h' (w0.wrote hS hk N X' e' Wq (A0.safe w0.alike (by decide)) ha) ⟨_, _, Wq⟩ (A0.set hi hf Wq))
theorem W.bst (w : W κ l R Z EL own nm mx rt vm T h k n) {a : Addr} {vs : List Int32} (A : Ary Z h a .byte vs) {i : Nat} {j x x' : Int32} (hj : j = Int32.ofNat i) (hi : i < vs.length) (hx : nar .byte x = x') (hf : fits .byte (.int x') = true) (S : Safe Z EL vm h a) (ha : Z.heap.size ≤ a) (hd : decode κ.c.code pc = .ok (.bastore, 1))
    (g : ∀ (T' : State) (h' : Heap), W κ l R Z EL own nm mx rt vm T' h' k n → (∃ sl v, Wr h h' a sl v) → Ary Z h' a .byte (vs.set i x') → Safe Z EL vm h' a → Go κ G T' (pc + 1) Ls st) : Go κ G T pc Ls (.int x :: .int j :: .ref a :: st) := by
  have w0 := w
  have A0 := A
  subst hj hx
  obtain ⟨q1, L, k0, X, e, hS, hk, hZ, ho, N, CC⟩ := w
  obtain ⟨c, A1, r1, r2, -⟩ := A
  obtain ⟨T', h', X', e', Wq, stp⟩ := stB X q1.1 hZ e A1 (Ary.inb r1 r2 hi) (g := mkF κ.m pc Ls (.int x :: .int (Int32.ofNat i) :: .ref a :: st)) rfl rfl hd
  exact Fx.via stp (g T' h' (w0.wrote hS hk N X' e' Wq S ha) ⟨_, _, Wq⟩ (A0.set hi hf Wq) (Safe.wr Wq S w0.chv S))
theorem W.ist (w : W κ l R Z EL own nm mx rt vm T h k n) {a : Addr} {vs : List Int32} (A : Ary Z h a .int vs) {i : Nat} {j x : Int32} (hj : j = Int32.ofNat i) (hi : i < vs.length) (ha : Z.heap.size ≤ a) (hd : decode κ.c.code pc = .ok (.iastore, 1))
    (g : ∀ (T' : State) (h' : Heap), W κ l R Z EL own nm mx rt vm T' h' k n → (∃ sl v, Wr h h' a sl v) → Ary Z h' a .int (vs.set i x) → Go κ G T' (pc + 1) Ls st) : Go κ G T pc Ls (.int x :: .int j :: .ref a :: st) := by
  have w0 := w
  have A0 := A
  subst hj
  obtain ⟨q1, L, k0, X, e, hS, hk, hZ, ho, N, CC⟩ := w
  obtain ⟨c, A1, r1, r2, -⟩ := A
  obtain ⟨T', h', X', e', Wq, stp⟩ := stI X q1.1 hZ e A1 (Ary.inb r1 r2 hi) (g := mkF κ.m pc Ls (.int x :: .int (Int32.ofNat i) :: .ref a :: st)) rfl rfl hd
  exact Fx.via stp (g T' h' (w0.wrote hS hk N X' e' Wq (A0.safe w0.alike (by decide)) ha) ⟨_, _, Wq⟩ (A0.set hi rfl Wq))
theorem W.len (w : W κ l R Z EL own nm mx rt vm T h k n) {a : Addr} {ty : FieldType} {vs : List Int32} (A : Ary Z h a ty vs) (hd : decode κ.c.code pc = .ok (.arraylength, 1)) (g : Go κ G T (pc + 1) Ls (.int (Int32.ofNat vs.length) :: st)) : Go κ G T pc Ls (.ref a :: st) := by
  obtain ⟨q1, L, k0, X, e, hS, hk, hZ, ho, N, CC⟩ := w
  obtain ⟨c, A1, r1, r2, -⟩ := A
  have hz : c.slots.size = vs.length := by
    have := congrArg List.length r1
    simpa using this
  refine Fx.via (fun t z => X.arraylength q1.1 (cell := c) (by rw [e]; exact A1.1) (State.isArrayOf_alike hZ.alike A1.2.1) (g := mkF κ.m pc Ls (.ref a :: st)) rfl rfl hd t ?_) g
  rw [hz]; exact z
theorem W.cld (w : W κ l R Z EL own nm mx rt vm T h k n) {a : Addr} {vs : List Int32} (A : Ary Z h a .char vs) {i : Nat} {j x : Int32} (hj : j = Int32.ofNat i) (hx : vs[i]? = some x) (hd : decode κ.c.code pc = .ok (.caload, 1)) (g : Go κ G T (pc + 1) Ls (.int x :: st)) : Go κ G T pc Ls (.int j :: .ref a :: st) := by
  subst hj
  obtain ⟨q1, L, k0, X, e, hS, hk, hZ, ho, N, CC⟩ := w
  obtain ⟨c, A1, r1, r2, -⟩ := A
  have hi : i < vs.length := (List.getElem?_eq_some_iff.mp hx).1
  exact Fx.via (fun t z => X.caload q1.1 (cell := c) (by rw [e]; exact A1.1) (State.isArrayOf_alike hZ.alike A1.2.1) A1.2.2 (Ary.inb r1 r2 hi) (Ary.at r1 r2 hi hx) (g := mkF κ.m pc Ls (.int (Int32.ofNat i) :: .ref a :: st)) rfl rfl hd t z) g
theorem W.bld (w : W κ l R Z EL own nm mx rt vm T h k n) {a : Addr} {vs : List Int32} (A : Ary Z h a .byte vs) {i : Nat} {j x : Int32} (hj : j = Int32.ofNat i) (hx : vs[i]? = some x) (hd : decode κ.c.code pc = .ok (.baload, 1)) (g : Go κ G T (pc + 1) Ls (.int x :: st)) : Go κ G T pc Ls (.int j :: .ref a :: st) := by
  subst hj
  obtain ⟨q1, L, k0, X, e, hS, hk, hZ, ho, N, CC⟩ := w
  obtain ⟨c, A1, r1, r2, -⟩ := A
  have hi : i < vs.length := (List.getElem?_eq_some_iff.mp hx).1
  exact Fx.via (fun t z => X.baloadBytes q1.1 (cell := c) (by rw [e]; exact A1.1) (State.isArrayOf_alike hZ.alike A1.2.1) A1.2.2 (Ary.inb r1 r2 hi) (Ary.at r1 r2 hi hx) (g := mkF κ.m pc Ls (.int (Int32.ofNat i) :: .ref a :: st)) rfl rfl hd t z) g
theorem W.ild (w : W κ l R Z EL own nm mx rt vm T h k n) {a : Addr} {vs : List Int32} (A : Ary Z h a .int vs) {i : Nat} {j x : Int32} (hj : j = Int32.ofNat i) (hx : vs[i]? = some x) (hd : decode κ.c.code pc = .ok (.iaload, 1)) (g : Go κ G T (pc + 1) Ls (.int x :: st)) : Go κ G T pc Ls (.int j :: .ref a :: st) := by
  subst hj
  obtain ⟨q1, L, k0, X, e, hS, hk, hZ, ho, N, CC⟩ := w
  obtain ⟨c, A1, r1, r2, -⟩ := A
  have hi : i < vs.length := (List.getElem?_eq_some_iff.mp hx).1
  exact Fx.via (fun t z => X.iaload q1.1 (cell := c) (by rw [e]; exact A1.1) (State.isArrayOf_alike hZ.alike A1.2.1) A1.2.2 (Ary.inb r1 r2 hi) (Ary.at r1 r2 hi hx) (g := mkF κ.m pc Ls (.int (Int32.ofNat i) :: .ref a :: st)) rfl rfl hd t z) g
theorem W.ldcI (w : W κ l R Z EL own nm mx rt vm T h k n) {index : Nat} {v : Int32} (w1 : (Cond.constant own index v).before a0 Z = true) (hd : decode κ.c.code pc = .ok (.ldc index, 2)) (g : Go κ G T (pc + 2) Ls (.int v :: st)) : Go κ G T pc Ls st := by
  obtain ⟨q1, L, k0, X, e, hS, hk, hZ, ho, N, CC⟩ := w
  exact Fx.via (fun t z => Stand.ldcI X q1.1 ho (mv (s := κ.s.setVm vm) hZ w1) (g := mkF κ.m pc Ls st) rfl hd z) g
theorem W.ldcO (w : W κ l R Z EL own nm mx rt vm T h k n) {text : String} {index : Nat} (w1 : (Cond.stringLink own index text).before a0 Z = true) (wS : ∀ a ∈ Bundle.stringAtoms, a.before a0 Z = true) (hEL : EW Z a0 EL) (hd : decode κ.c.code pc = .ok (.ldc index, 2)) {c : Nat} (hn : 4 * text.toList.length ≤ c) (hbig : c ≤ 536870912) (hc : k + 2 ≤ R.cells) (hl : n + (c + 4) ≤ R.slots)
    (g : ∀ (vm' : Vm) (T' : State) (h' : Heap) (a : Addr), W κ l R Z EL own nm mx rt vm' T' h' (k + 2) (n + (c + 4)) → Ext h h' → CHr Z EL vm h vm' h' → Go κ G T' (pc + 2) Ls (.ref a :: st)) : Go κ G T pc Ls st := by
  obtain ⟨q1, L, k0, X, e, hS, hk, hZ, ho, N, CC⟩ := w
  obtain ⟨a, T', h', k1, X', e', E, hS', hk', hW, hf, C', -, stp⟩ := ldcOH X q1.1 hZ ho w1 wS e hS hk hEL CC.1 (g := mkF κ.m pc Ls st) rfl hd hn hbig hc hl
  exact Fx.via stp (g T'.vm T' h' a ⟨q1, L, k1, X', e', hS', hk', hW, hf, N, CC.trans C'⟩ E C')
theorem W.ldcC (w : W κ l R Z EL own nm mx rt vm T h k n) {text : String} {index : Nat} (w1 : (Cond.stringLink own index text).before a0 Z = true) (wS : ∀ a ∈ Bundle.stringAtoms, a.before a0 Z = true) (hEL : EW Z a0 EL) (hmem : (own, index) ∈ EL) {vs : List Int32} (ht : (∀ c ∈ text.toList, c.toNat < 256) ∧ text.toList.map (fun c => Value.int (Jvm.Lit.byteI c.toNat.toUInt16)) = vs.map Value.int) (hlen : vs.length < 2147483648) (hd : decode κ.c.code pc = .ok (.ldc index, 2)) {c : Nat} (hn : 4 * text.toList.length ≤ c) (hbig : c ≤ 536870912) (hc : k + 2 ≤ R.cells) (hl : n + (c + 4) ≤ R.slots)
    (g : ∀ (vm' : Vm) (T' : State) (h' : Heap) (a b : Addr), W κ l R Z EL own nm mx rt vm' T' h' (k + 2) (n + (c + 4)) → Ext h h' → CHr Z EL vm h vm' h' → Exa Z h' a "java/lang/String" → Fld Z h' a "java/lang/String" "coder" "B" (.int 0) → Fld Z h' a "java/lang/String" "value" "[B" (.ref b) → Ary Z h' b .byte vs → (∀ x, Safe Z EL vm' h' x → x ≠ a ∧ x ≠ b) → Go κ G T' (pc + 2) Ls (.ref a :: st)) : Go κ G T pc Ls st := by
  obtain ⟨q1, L, k0, X, e, hS, hk, hZ, ho, N, CC⟩ := w
  obtain ⟨a, T', h', k1, b, kk, X', e', E, hS', hk', hW, hf, F1, F2, F3, F4, -, -, C', -, F5, stp⟩ := ldcCH X q1.1 hZ ho w1 wS e hS hk hEL hmem CC.1 ht (z := Int32.ofNat vs.length) (nneg_ofNat hlen) (by rw [clamp_ofNat hlen]; simp) (g := mkF κ.m pc Ls st) rfl hd hn hbig hc hl
  exact Fx.via stp (g T'.vm T' h' a b ⟨q1, L, k1, X', e', hS', hk', hW, hf, N, CC.trans C'⟩ E C' F1 F2 F3 (Ary.of_arv (by rw [clamp_ofNat hlen]) F4) F5)
theorem W.initO (w : W κ l R Z EL own nm mx rt vm T h k n) {idx : Nat} (w1 : (Cond.methodLink own idx Lib.objectInit).before a0 Z = true) (w2 : (Cond.instanceMethod Lib.objectInit).before a0 Z = true) (w3 : (Cond.code Lib.objectInit ⟨#[0xb1]⟩ 1 none).before a0 Z = true) {a : Addr} (hsz : Ls.size = mx) (hd : decode κ.c.code pc = .ok (.invokespecial idx, 3)) (hf : 1 ≤ R.frames) {Wd : Nat} (hW : (st.map fun v => v.category).sum ≤ Wd) (hl : Wd + 12 ≤ R.locals)
    (g : ∀ T' : State, W κ l R Z EL own nm mx rt vm T' h k n → Go κ G T' (pc + 3) Ls st) : Go κ G T pc Ls (.ref a :: st) := by
  obtain ⟨q1, L, k0, X, e, hS, hk, hZ, ho, N, CC⟩ := w
  obtain ⟨T', X', e', stp⟩ := RoadKit.initO X q1.1 hZ ho w1 w2 w3 e (g := mkF κ.m pc Ls (.ref a :: st)) rfl (by rw [q1.2.1]; exact hsz) rfl hd hf (W := Wd) (by show 2 * 0 + _ ≤ _; omega) hl
  exact Fx.via stp (g T' ⟨q1, L, k0, X', e', hS, hk, hZ, ho, N, CC⟩)
/-- what a call asks of its callee -/
abbrev BB (κ : Cx) (l : Launch) (R : Room) (Z : State) (EL : List (String × Nat)) (vm : Vm) (h : Heap) (y : MethodName) (len Wd : Nat) (as' : Array Value) (rc rs : Nat) (Q : Option Value → Heap → (Addr → Prop) → Prop) : Prop :=
  BackS l R κ.p κ.e κ.b (κ.s.setVm vm) κ.a y len Wd (fun A a => a = as' ∧ A.U.heap = h ∧ A.cells + rc ≤ R.cells ∧ A.slots + rs ≤ R.slots)
      (fun A _ v B => ∃ L, (Q v B.U.heap (Safe Z EL B.U.vm B.U.heap) ∧ Fr Z.heap.size L) ∧ B.locs = A.locs ++ L ∧ B.cells = A.cells + rc ∧ B.slots = A.slots + rs ∧ CHr Z EL vm h B.U.vm B.U.heap)
theorem Ctr.pays {y : MethodName} {bytes : ByteArray} {maxL : Nat} {ret : Option FieldType} {rm : Room} {sf : List Addr} {as' : Array Value} {Q : Option Value → Heap → (Addr → Prop) → Prop} {len Wd : Nat} (C : Ctr l Z EL y bytes maxL ret [] rm sf as' h Q) (w : W κ l R Z EL own nm mx rt vm T h k n)
    (wc : (Cond.code y bytes maxL ret).before a0 Z = true) (wz : (Cond.initialized y.cls).before a0 Z = true) (hEL : EW Z a0 EL) (hf : rm.frames + 1 ≤ R.frames) (hl : Wd + (maxL + 11) + rm.locals ≤ R.locals) (hsf : ∀ x ∈ sf, x < h.size ∧ Safe Z EL vm h x) : BB κ l R Z EL vm h y len Wd as' rm.cells rm.slots Q :=
  BackS.of_freeW (bytes := bytes) (maxL := maxL) (ret := ret) (E := fun _ first o t L k n => k = rm.cells ∧ n = rm.slots ∧ (∃ v, o = .returned v ∧ (Q v t.heap (Safe Z EL t.vm t.heap) ∧ Fr Z.heap.size L)) ∧ CHr Z EL first.vm first.heap t.vm t.heap) C hf hl
    (fun m meth c A a Y hp => have hU : Z.Warmed39 A.U.vm := wtrans (s := κ.s.setVm vm) w.warm Y.warmed
      ⟨by show (Cond.and _ .tt).before a A.U = true; rw [Cond.before_and, mv hU wc]; rfl, mv hU wc, mv hU wz, hp.2.2.1, hp.2.2.2⟩)
    (fun m meth c A a g mk Y hp => ⟨hp.1, wtrans (s := κ.s.setVm vm) w.warm Y.warmed, hp.2.1, (CHv.at Y w.warm hEL w.chv).1, fun x hx => (CHv.at Y w.warm hEL w.chv).safe (hsf x hx).1 (hsf x hx).2⟩) (fun _ _ _ _ _ _ _ _ _ => trivial)
    (fun _ _ _ _ ⟨v, L, h1, h2, h3, h4⟩ => ⟨L, _, _, h4, rfl, rfl, ⟨v, h1, h2⟩, h3⟩)
    (fun m meth c A a g mk v t L k n Y hp _ _ ⟨e1, e2, ⟨v', e3, e4⟩, e5⟩ => by
      cases e3; subst e1 e2
      refine ⟨L, e4, rfl, rfl, rfl, (CHv.at Y w.warm hEL w.chv).trans ?_⟩
      rw [← hp.2.1]; exact e5)
theorem sfNil {vm : Vm} {h : Heap} : ∀ x ∈ ([] : List Addr), x < h.size ∧ Safe Z EL vm h x := fun _ q => nomatch q
theorem sfOne {vm : Vm} {h : Heap} {a : Addr} (h1 : a < h.size) (h2 : Safe Z EL vm h a) : ∀ x ∈ [a], x < h.size ∧ Safe Z EL vm h x := fun x q => by rw [List.mem_singleton.mp q]; exact ⟨h1, h2⟩
/-- a narrow payer (it interns nothing, and writes at most ws of what was there) -/
theorem BB.of_back {y : MethodName} {len Wd : Nat} {as' : Array Value} {rc rs : Nat} {Q0 : Option Value → Heap → List Loc → Prop} {Q : Option Value → Heap → (Addr → Prop) → Prop} (w : W κ l R Z EL own nm mx rt vm T h k n) (hEL : EW Z a0 EL)
    (hB : Back l R κ.p κ.e κ.b (κ.s.setVm vm) κ.a y len Wd (fun A a => a = as' ∧ A.U.heap = h ∧ A.cells + rc ≤ R.cells ∧ A.slots + rs ≤ R.slots) (fun A _ v B => ∃ L, Q0 v B.U.heap L ∧ B.locs = A.locs ++ L ∧ B.cells = A.cells + rc ∧ B.slots = A.slots + rs)) {ws : List Addr} (hs : ∀ x ∈ ws, Safe Z EL vm h x)
    (hQ : ∀ v h' L S, Q0 v h' L → Q v h' S ∧ Fr Z.heap.size L ∧ Keep h h' ws) : BB κ l R Z EL vm h y len Wd as' rc rs Q := by
  intro m meth c A g ig mk a X hg hsize hdg hW hn hp
  obtain ⟨v, B, X', ⟨L, h1, h2, h3, h4⟩, hsteps⟩ := hB m meth c A g ig mk a X hg hsize hdg hW hn hp
  obtain ⟨q1, q2, q3⟩ := hQ v B.U.heap L (Safe Z EL B.U.vm B.U.heap) h1
  refine ⟨v, B, X'.retabled X'.warmed.wide, X'.warmed.since _, by rw [hp.2.1]; exact q3.1, ⟨L, ⟨q1, q2⟩, h2, h3, h4, ?_⟩, hsteps⟩
  exact (CHr.keep q3 hs w.chv).trans (CHv.at X' w.warm hEL (w.chv.keep q3 hs))
theorem W.back (w : W κ l R Z EL own nm mx rt vm T h k n) {T' : State} {locs L : List Loc} {k' n' : Nat} (hk0 : ∃ k0, κ.s.Since vm k0 ∧ k0 ≤ h.size) (N : Fr Z.heap.size locs) (X' : Stand κ.p l κ.e R ((κ.s.setVm vm).setVm T'.vm) κ.m κ.a κ.b κ.M κ.c T' (locs ++ L) k' n') (hS : (κ.s.setVm vm).Since T'.vm T'.heap.size) (hgr : h.size ≤ T'.heap.size) (NL : Fr Z.heap.size L) (C : CHr Z EL vm h T'.vm T'.heap) : W κ l R Z EL own nm mx rt T'.vm T' T'.heap k' n' := by
  obtain ⟨w1, -, -, -, -, -, -, hZ, ho, -, CC⟩ := w
  obtain ⟨k0, hS0, hk⟩ := hk0
  obtain ⟨Y, hS', hZ', ho'⟩ := rebS (own := own) hS0 hk X' hS hgr hZ ho
  exact ⟨w1, _, _, Y, rfl, hS', Nat.le_refl _, hZ', ho', N.app NL, CC.trans C⟩
theorem W.callS (w : W κ l R Z EL own nm mx rt vm T h k n) {y : MethodName} {bytes : ByteArray} {maxL : Nat} {ret : Option FieldType} {index : Nat} (w1 : (Cond.methodLink own index y).before a0 Z = true) (w2 : (Cond.static y).before a0 Z = true) (w3 : (Cond.initialized y.cls).before a0 Z = true) (w4 : (Cond.code y bytes maxL ret).before a0 Z = true) (hy : y.cls ≠ "java/lang/invoke/MethodHandle" ∧ y.cls ≠ "java/lang/invoke/VarHandle")
    {argsL : List Value} {rc rs Wd : Nat} {Q : Option Value → Heap → (Addr → Prop) → Prop} (hK : BB κ l R Z EL vm h y 3 Wd argsL.toArray rc rs Q) {ps : List FieldType} {r0 : Option FieldType} (hde : parseMethodDescriptor y.desc = some ⟨ps, r0⟩) (hlen : argsL.length = ps.length) {st0 : List Value} (hst : st0 = argsL.reverse ++ st) (hsz : Ls.size = mx) (hW : (st.map fun v => v.category).sum ≤ Wd) (hd : decode κ.c.code pc = .ok (.invokestatic index, 3)) (hc : k + rc ≤ R.cells) (hl : n + rs ≤ R.slots)
    (g : ∀ (vm' : Vm) (T' : State) (h' : Heap) (v : Option Value), W κ l R Z EL own nm mx rt vm' T' h' (k + rc) (n + rs) → CHr Z EL vm h vm' h' → Q v h' (Safe Z EL vm' h') → Go κ G T' (pc + 3) Ls (v.toList ++ st)) : Go κ G T pc Ls st0 := by
  have w0 := w
  subst hst
  obtain ⟨q1, L, k0, X, e, hS, hk, hZ, ho, N, CC⟩ := w
  obtain ⟨v, vm₁, ⟨T', L', k', n'⟩, -, X', hS', hgr, ⟨L2, ⟨hQ, NL⟩, p1, p2, p3, p4⟩, stp⟩ := callSS X q1.1 ho (mvT (s := κ.s.setVm vm) hZ w1) (mvT (s := κ.s.setVm vm) hZ w2) (mvT (s := κ.s.setVm vm) hZ w3) (mvT (s := κ.s.setVm vm) hZ w4) hy hK (g := mkF κ.m pc Ls (argsL.reverse ++ st)) rfl (by rw [q1.2.1]; exact hsz) (argsL := argsL) (rest := st) (lenOf hde hlen) rfl (by show 2 * 0 + _ ≤ _; omega) hd (fun _ _ => ⟨rfl, e, hc, hl⟩)
  dsimp only [Pt.U, Pt.locs, Pt.cells, Pt.slots] at X' hS' hgr hQ p1 p2 p3 p4 stp
  subst p1 p2 p3
  exact Fx.after stp (g T'.vm T' T'.heap v (w0.back ⟨k0, hS, hk⟩ N X' hS' (by rw [← e]; exact hgr) NL p4) p4 hQ)
theorem W.callI (w : W κ l R Z EL own nm mx rt vm T h k n) {y : MethodName} {bytes : ByteArray} {maxL : Nat} {index : Nat} (hy1 : y.name = "<init>") (w1 : (Cond.methodLink own index y).before a0 Z = true) (w2 : (Cond.instanceMethod y).before a0 Z = true) (w4 : (Cond.code y bytes maxL none).before a0 Z = true) (hy : y.cls ≠ "java/lang/invoke/MethodHandle" ∧ y.cls ≠ "java/lang/invoke/VarHandle")
    {a : Addr} {argsL : List Value} {rc rs Wd : Nat} {Q : Option Value → Heap → (Addr → Prop) → Prop} (hK : BB κ l R Z EL vm h y 3 Wd (.ref a :: argsL).toArray rc rs Q) {ps : List FieldType} {r0 : Option FieldType} (hde : parseMethodDescriptor y.desc = some ⟨ps, r0⟩) (hlen : argsL.length = ps.length) {st0 : List Value} (hst : st0 = argsL.reverse ++ .ref a :: st) (hsz : Ls.size = mx) (hW : (st.map fun v => v.category).sum ≤ Wd) (hd : decode κ.c.code pc = .ok (.invokespecial index, 3)) (hc : k + rc ≤ R.cells) (hl : n + rs ≤ R.slots)
    (g : ∀ (vm' : Vm) (T' : State) (h' : Heap) (v : Option Value), W κ l R Z EL own nm mx rt vm' T' h' (k + rc) (n + rs) → CHr Z EL vm h vm' h' → Q v h' (Safe Z EL vm' h') → Go κ G T' (pc + 3) Ls (v.toList ++ st)) : Go κ G T pc Ls st0 := by
  have w0 := w
  subst hst
  obtain ⟨q1, L, k0, X, e, hS, hk, hZ, ho, N, CC⟩ := w
  obtain ⟨v, vm₁, ⟨T', L', k', n'⟩, -, X', hS', hgr, ⟨L2, ⟨hQ, NL⟩, p1, p2, p3, p4⟩, stp⟩ := X.specialBackS q1.1 hy1 ho (mvT (s := κ.s.setVm vm) hZ w1) (mvT (s := κ.s.setVm vm) hZ w2) (mvT (s := κ.s.setVm vm) hZ w4) hy hK (g := mkF κ.m pc Ls (argsL.reverse ++ .ref a :: st)) rfl (by rw [q1.2.1]; exact hsz) (Steps.refl _) (a := a) (argsL := argsL) (rest := st) (lenOf hde hlen) rfl (by show 2 * 0 + _ ≤ _; omega) hd (fun _ _ => ⟨rfl, e, hc, hl⟩)
  dsimp only [Pt.U, Pt.locs, Pt.cells, Pt.slots] at X' hS' hgr hQ p1 p2 p3 p4 stp
  subst p1 p2 p3
  exact Fx.after stp (g T'.vm T' T'.heap v (w0.back ⟨k0, hS, hk⟩ N X' hS' (by rw [← e]; exact hgr) NL p4) p4 hQ)
theorem W.callV (w : W κ l R Z EL own nm mx rt vm T h k n) {y z : MethodName} {C : String} {index : Nat} (w1 : (Cond.methodLink own index y).before a0 Z = true) (w2 : (Cond.declares y).before a0 Z = true) (hnf : ∀ s : State, Z.Warmed39 s.vm → NotFace s y) (w3 : (Cond.selects C y z).before a0 Z = true) (w4 : (Cond.instanceMethod z).before a0 Z = true) (hy : y.cls ≠ "java/lang/invoke/MethodHandle" ∧ y.cls ≠ "java/lang/invoke/VarHandle")
    {a : Addr} (E : Exa Z h a C) {argsL : List Value} {rc rs Wd : Nat} {Q : Option Value → Heap → (Addr → Prop) → Prop} (hK : BB κ l R Z EL vm h z 3 Wd (.ref a :: argsL).toArray rc rs Q) {ps : List FieldType} {r0 : Option FieldType} (hde : parseMethodDescriptor y.desc = some ⟨ps, r0⟩) (hlen : argsL.length = ps.length) {st0 : List Value} (hst : st0 = argsL.reverse ++ .ref a :: st) (hsz : Ls.size = mx) (hW : (st.map fun v => v.category).sum ≤ Wd) (hd : decode κ.c.code pc = .ok (.invokevirtual index, 3)) (hc : k + rc ≤ R.cells) (hl : n + rs ≤ R.slots)
    (g : ∀ (vm' : Vm) (T' : State) (h' : Heap) (v : Option Value), W κ l R Z EL own nm mx rt vm' T' h' (k + rc) (n + rs) → CHr Z EL vm h vm' h' → Q v h' (Safe Z EL vm' h') → Go κ G T' (pc + 3) Ls (v.toList ++ st)) : Go κ G T pc Ls st0 := by
  have w0 := w
  subst hst
  obtain ⟨q1, L, k0, X, e, hS, hk, hZ, ho, N, CC⟩ := w
  obtain ⟨cB, kB, i1, i2, i3⟩ := isOf (s := κ.s.setVm vm) hZ e E
  obtain ⟨v, vm₁, ⟨T', L', k', n'⟩, -, X', hS', hgr, ⟨L2, ⟨hQ, NL⟩, p1, p2, p3, p4⟩, stp⟩ := X.virtualBackS q1.1 ho (mvT (s := κ.s.setVm vm) hZ w1) (mvT (s := κ.s.setVm vm) hZ w2) (hnf (κ.s.setVm vm) hZ) (mvT (s := κ.s.setVm vm) hZ w3) (mvT (s := κ.s.setVm vm) hZ w4) hy hK i1 i3 (g := mkF κ.m pc Ls (argsL.reverse ++ .ref a :: st)) rfl (by rw [q1.2.1]; exact hsz) (Steps.refl _) (argsL := argsL) (rest := st) (lenOf hde hlen) rfl (by show 2 * 0 + _ ≤ _; omega) hd (fun _ _ => ⟨rfl, e, hc, hl⟩)
  dsimp only [Pt.U, Pt.locs, Pt.cells, Pt.slots] at X' hS' hgr hQ p1 p2 p3 p4 stp
  subst p1 p2 p3
  exact Fx.after stp (g T'.vm T' T'.heap v (w0.back ⟨k0, hS, hk⟩ N X' hS' (by rw [← e]; exact hgr) NL p4) p4 hQ)
theorem notFace {y : MethodName} {C : String} (w3 : (Cond.selects C y y).before a0 Z = true) : ∀ s : State, Z.Warmed39 s.vm → NotFace s y := fun s hZ => notFace_of_selects (args := #[]) (mvT hZ w3)
theorem W.instY (w : W κ l R Z EL own nm mx rt vm T h k n) {K : String} {index : Nat} (w1 : (Cond.classLink own index K).before a0 Z = true) {a : Addr} (F : Ins Z h a K true) (hd : decode κ.c.code pc = .ok (.instanceof index, 3))
    (g : ∀ T' : State, W κ l R Z EL own nm mx rt vm T' h k n → Go κ G T' (pc + 3) Ls (.int 1 :: st)) : Go κ G T pc Ls (.ref a :: st) := by
  obtain ⟨q1, L, k0, X, e, hS, hk, hZ, ho, N, CC⟩ := w
  obtain ⟨T', X', e', stp⟩ := RoadKit.instY X q1.1 hZ ho w1 e F (g := mkF κ.m pc Ls (.ref a :: st)) rfl rfl hd
  exact Fx.via stp (g T' ⟨q1, L, k0, X', e', hS, hk, hZ, ho, N, CC⟩)
theorem W.castY (w : W κ l R Z EL own nm mx rt vm T h k n) {K : String} {index : Nat} (w1 : (Cond.classLink own index K).before a0 Z = true) {a : Addr} (F : Ins Z h a K true) (hd : decode κ.c.code pc = .ok (.checkcast index, 3))
    (g : ∀ T' : State, W κ l R Z EL own nm mx rt vm T' h k n → Go κ G T' (pc + 3) Ls (.ref a :: st)) : Go κ G T pc Ls (.ref a :: st) := by
  obtain ⟨q1, L, k0, X, e, hS, hk, hZ, ho, N, CC⟩ := w
  obtain ⟨T', X', e', stp⟩ := RoadKit.castY X q1.1 hZ ho w1 e F (g := mkF κ.m pc Ls (.ref a :: st)) rfl rfl hd
  exact Fx.via stp (g T' ⟨q1, L, k0, X', e', hS, hk, hZ, ho, N, CC⟩)
theorem W.acmp (w : W κ l R Z EL own nm mx rt vm T h k n) {o : Int} {pc' : Nat} {a b : Addr} (hd : decode κ.c.code pc = .ok (.if_acmp .ne o, 3)) (ho : 0 ≤ (pc : Int) + o) (hp : ((pc : Int) + o).toNat = pc') (hT : ¬ a = b → Go κ G T pc' Ls st) (hF : a = b → Go κ G T (pc + 3) Ls st) : Go κ G T pc Ls (.ref b :: .ref a :: st) := by
  obtain ⟨q1, L, k0, X, e, hS, hk, hZ, ho', N, CC⟩ := w
  by_cases q : a = b
  · exact Fx.via (fun t z => RoadKit.acmp X q1.1 rfl (cd := .ne) (x := .ref a) (y := .ref b) rfl rfl (same := true) rfl hd rfl (by simp [q]) ho (pc' := pc + 3) (by simp [acV]) z) (hF q)
  · exact Fx.via (fun t z => RoadKit.acmp X q1.1 rfl (cd := .ne) (x := .ref a) (y := .ref b) rfl rfl (same := false) rfl hd rfl (by simp [q]) ho (pc' := pc') (by simp [acV, hp]) z) (hT q)
theorem W.acmpE (w : W κ l R Z EL own nm mx rt vm T h k n) {o : Int} {pc' : Nat} {a b : Addr} (hd : decode κ.c.code pc = .ok (.if_acmp .eq o, 3)) (ho : 0 ≤ (pc : Int) + o) (hp : ((pc : Int) + o).toNat = pc') (hT : a = b → Go κ G T pc' Ls st) (hF : ¬ a = b → Go κ G T (pc + 3) Ls st) : Go κ G T pc Ls (.ref b :: .ref a :: st) := by
  obtain ⟨q1, L, k0, X, e, hS, hk, hZ, ho', N, CC⟩ := w
  by_cases q : a = b
  · exact Fx.via (fun t z => RoadKit.acmp X q1.1 rfl (cd := .eq) (x := .ref a) (y := .ref b) rfl rfl (same := true) rfl hd rfl (by simp [q]) ho (pc' := pc') (by simp [acV, hp]) z) (hT q)
  · exact Fx.via (fun t z => RoadKit.acmp X q1.1 rfl (cd := .eq) (x := .ref a) (y := .ref b) rfl rfl (same := false) rfl hd rfl (by simp [q]) ho (pc' := pc + 3) (by simp [acV]) z) (hF q)
/-- invokevirtual of a private method -/
theorem W.callP (w : W κ l R Z EL own nm mx rt vm T h k n) {y : MethodName} {bytes : ByteArray} {maxL : Nat} {ret : Option FieldType} {index : Nat} (w1 : (Cond.methodLink own index y).before a0 Z = true) (w2 : (Cond.instanceMethod y).before a0 Z = true) (hnf : ∀ s : State, Z.Warmed39 s.vm → NotFace s y) (w5 : (Cond.privateMethod y).before a0 Z = true) (w4 : (Cond.code y bytes maxL ret).before a0 Z = true) (hy : y.cls ≠ "java/lang/invoke/MethodHandle" ∧ y.cls ≠ "java/lang/invoke/VarHandle")
    {a : Addr} {C : String} (E : Exa Z h a C) {argsL : List Value} {rc rs Wd : Nat} {Q : Option Value → Heap → (Addr → Prop) → Prop} (hK : BB κ l R Z EL vm h y 3 Wd (.ref a :: argsL).toArray rc rs Q) {ps : List FieldType} {r0 : Option FieldType} (hde : parseMethodDescriptor y.desc = some ⟨ps, r0⟩) (hlen : argsL.length = ps.length) {st0 : List Value} (hst : st0 = argsL.reverse ++ .ref a :: st) (hsz : Ls.size = mx) (hW : (st.map fun v => v.category).sum ≤ Wd) (hd : decode κ.c.code pc = .ok (.invokevirtual index, 3)) (hc : k + rc ≤ R.cells) (hl : n + rs ≤ R.slots)
    (g : ∀ (vm' : Vm) (T' : State) (h' : Heap) (v : Option Value), W κ l R Z EL own nm mx rt vm' T' h' (k + rc) (n + rs) → CHr Z EL vm h vm' h' → Q v h' (Safe Z EL vm' h') → Go κ G T' (pc + 3) Ls (v.toList ++ st)) : Go κ G T pc Ls st0 := by
  have w0 := w
  subst hst
  obtain ⟨q1, L, k0, X, e, hS, hk, hZ, ho, N, CC⟩ := w
  obtain ⟨cell, hcell, hob⟩ := E.cell
  have hinst : (Cond.instanceMethod y).before κ.a (κ.s.setVm vm) = true := mvT (s := κ.s.setVm vm) hZ w2
  have hcode : (Cond.code y bytes maxL ret).before κ.a (κ.s.setVm vm) = true := mvT (s := κ.s.setVm vm) hZ w4
  obtain ⟨mk, methM, hnamed, hmethM, hstM, habM⟩ := Cond.instanceMethod_spec hinst
  obtain ⟨methM', cM, hmethM', -, -, -, -, -, -, hsigM⟩ := Cond.code_spec hnamed hcode
  cases hmethM.symm.trans hmethM'
  obtain ⟨kP, hkP, hkPi⟩ := hnf (κ.s.setVm vm) hZ mk hnamed
  have hselP : selectMethod κ.e.platform (κ.s.setVm vm).vm cell.cls mk = .method mk := selectMethod_private hmethM (Cond.privateMethod_at (args := #[]) (mvP (s := κ.s.setVm vm) hZ w5) mk methM hnamed hmethM)
  obtain ⟨vm₁, X₁, hstep₁⟩ := X.invokevirtual q1.1 ho (mvT (s := κ.s.setVm vm) hZ w1) hnamed hmethM hstM hkP hkPi hy (a := a) (cell := cell) (by rw [e]; exact hcell) hob hselP hmethM habM hkP hkPi (g := mkF κ.m pc Ls (argsL.reverse ++ .ref a :: st)) rfl (argsL := argsL) (rest := st) (lenOf hde hlen _ hsigM) rfl hd
  obtain ⟨v, ⟨T', L', k', n'⟩, X', hS', hgr, ⟨L2, ⟨hQ, NL⟩, p1, p2, p3, p4⟩, hsteps⟩ := hK κ.m κ.M κ.c ⟨T.setVm vm₁, L, k, n⟩ (mkF κ.m pc Ls st) (.invokevirtual index) mk (.ref a :: argsL).toArray X₁ rfl (by show Ls.size = _; rw [q1.2.1]; exact hsz) hd (by show 2 * 0 + (st.map fun v => v.category).sum ≤ _; omega) (X₁.named hnamed) ⟨rfl, e, hc, hl⟩
  dsimp only [Pt.U, Pt.locs, Pt.cells, Pt.slots] at X' hS' hgr hQ p1 p2 p3 p4 hsteps
  subst p1 p2 p3
  have stp := (hstep₁ _ fun acts => by rw [doInvoke_state]; exact Steps.refl _).trans hsteps
  exact Fx.after stp (g T'.vm T' T'.heap v (w0.back ⟨k0, hS, hk⟩ N X' hS' (by rw [← e]; exact hgr) NL p4) p4 hQ)
theorem notFaceAs {y y' : MethodName} {C : String} (hc : y.cls = y'.cls) (w3 : (Cond.selects C y' y').before a0 Z = true) (w4 : (Cond.instanceMethod y').before a0 Z = true) : ∀ s : State, Z.Warmed39 s.vm → NotFace s y := fun s hZ r0 h0 => by
  have hi : (Cond.instanceMethod y').before #[] s = true := mvT hZ w4
  obtain ⟨mk, methM, hnamed, -⟩ := Cond.instanceMethod_spec hi
  obtain ⟨kr, h1, h2⟩ := notFace (a0 := a0) w3 s hZ mk hnamed
  have e1 := findClass_of_methodNamed h0
  have e2 := findClass_of_methodNamed hnamed
  rw [hc] at e1
  have e3 := Option.some.inj (e1.symm.trans e2)
  exact ⟨kr, by rw [e3]; exact h1, h2⟩
/-- invokevirtual of a method that a superclass declares -/
theorem W.callUp (w : W κ l R Z EL own nm mx rt vm T h k n) {y z : MethodName} {C owner : String} {index : Nat} (w1 : (Cond.methodLink own index y).before a0 Z = true) (w2 : (Cond.sameMethod y.cls owner y.name y.desc).before a0 Z = true) (w3 : (Cond.declares ⟨owner, y.name, y.desc⟩).before a0 Z = true) (hy : owner ≠ "java/lang/invoke/MethodHandle" ∧ owner ≠ "java/lang/invoke/VarHandle") (w4 : (Cond.selects C y z).before a0 Z = true) (w5 : (Cond.instanceMethod z).before a0 Z = true)
    {a : Addr} (E : Exa Z h a C) {argsL : List Value} {rc rs Wd : Nat} {Q : Option Value → Heap → (Addr → Prop) → Prop} (hK : BB κ l R Z EL vm h z 3 Wd (.ref a :: argsL).toArray rc rs Q) {ps : List FieldType} {r0 : Option FieldType} (hde : parseMethodDescriptor y.desc = some ⟨ps, r0⟩) (hlen : argsL.length = ps.length) {st0 : List Value} (hst : st0 = argsL.reverse ++ .ref a :: st) (hsz : Ls.size = mx) (hW : (st.map fun v => v.category).sum ≤ Wd) (hd : decode κ.c.code pc = .ok (.invokevirtual index, 3)) (hc : k + rc ≤ R.cells) (hl : n + rs ≤ R.slots)
    (g : ∀ (vm' : Vm) (T' : State) (h' : Heap) (v : Option Value), W κ l R Z EL own nm mx rt vm' T' h' (k + rc) (n + rs) → CHr Z EL vm h vm' h' → Q v h' (Safe Z EL vm' h') → Go κ G T' (pc + 3) Ls (v.toList ++ st)) : Go κ G T pc Ls st0 := by
  have w0 := w
  subst hst
  obtain ⟨q1, L, k0, X, e, hS, hk, hZ, ho, N, CC⟩ := w
  obtain ⟨cB, kB, i1, i2, i3⟩ := isOf (s := κ.s.setVm vm) hZ e E
  obtain ⟨v, vm₁, ⟨T', L', k', n'⟩, -, X', hS', hgr, ⟨L2, ⟨hQ, NL⟩, p1, p2, p3, p4⟩, stp⟩ := X.virtualBackUpS q1.1 ho (mvT (s := κ.s.setVm vm) hZ w1) (mvT (s := κ.s.setVm vm) hZ w2) (mvT (s := κ.s.setVm vm) hZ w3) hy (mvT (s := κ.s.setVm vm) hZ w4) (mvT (s := κ.s.setVm vm) hZ w5) hK i1 i3 (g := mkF κ.m pc Ls (argsL.reverse ++ .ref a :: st)) rfl (by rw [q1.2.1]; exact hsz) (Steps.refl _) (argsL := argsL) (rest := st) (lenOf hde hlen) rfl (by show 2 * 0 + _ ≤ _; omega) hd (fun _ _ => ⟨rfl, e, hc, hl⟩)
  dsimp only [Pt.U, Pt.locs, Pt.cells, Pt.slots] at X' hS' hgr hQ p1 p2 p3 p4 stp
  subst p1 p2 p3
  exact Fx.after stp (g T'.vm T' T'.heap v (w0.back ⟨k0, hS, hk⟩ N X' hS' (by rw [← e]; exact hgr) NL p4) p4 hQ)
theorem W.instNo (w : W κ l R Z EL own nm mx rt vm T h k n) {K C : String} {index : Nat} (w1 : (Cond.classLink own index K).before a0 Z = true) {a : Addr} (E : Exa Z h a C) (F : ∃ c t, Z.vm.findClass C = some c ∧ Z.vm.findClass K = some t ∧ Z.vm.assignable c t = false) (hd : decode κ.c.code pc = .ok (.instanceof index, 3))
    (g : ∀ T' : State, W κ l R Z EL own nm mx rt vm T' h k n → Go κ G T' (pc + 3) Ls (.int 0 :: st)) : Go κ G T pc Ls (.ref a :: st) := by
  obtain ⟨q1, L, k0, X, e, hS, hk, hZ, ho, N, CC⟩ := w
  obtain ⟨T', X', e', stp⟩ := RoadKit.instNo X q1.1 hZ ho w1 e E F (g := mkF κ.m pc Ls (.ref a :: st)) rfl rfl hd
  exact Fx.via stp (g T' ⟨q1, L, k0, X', e', hS, hk, hZ, ho, N, CC⟩)
theorem W.instNull (w : W κ l R Z EL own nm mx rt vm T h k n) {index : Nat} (hd : decode κ.c.code pc = .ok (.instanceof index, 3)) (g : Go κ G T (pc + 3) Ls (.int 0 :: st)) : Go κ G T pc Ls (.null :: st) := by
  obtain ⟨q1, L, k0, X, -⟩ := w
  exact Fx.via (Stand.instanceofNull X q1.1 (g := mkF κ.m pc Ls (.null :: st)) rfl rfl hd) g
theorem W.lsw (w : W κ l R Z EL own nm mx rt vm T h k n) {x : Int32} {dflt : Int} {pairs : Array (Int × Int)} {len : Nat} {pc' : Nat} (hd : decode κ.c.code pc = .ok (.lookupswitch dflt pairs, len)) (hso : (pairs.toList.zip (pairs.toList.drop 1)).all (fun (a, next) => a.1 < next.1) = true) {p : Int × Int} (hf : pairs.find? (·.1 == x.toInt) = some p) (ho : 0 ≤ (pc : Int) + p.2) (hp : ((pc : Int) + p.2).toNat = pc') (g : Go κ G T pc' Ls st) : Go κ G T pc Ls (.int x :: st) := by
  obtain ⟨q1, L, k0, X, -⟩ := w
  subst hp
  obtain ⟨p1, p2⟩ := p
  exact Fx.via (fun t z => Stand.lookupswitchHit X q1.1 (g := mkF κ.m pc Ls (.int x :: st)) rfl rfl hd hso hf ho t z) g
/-- the end -/
theorem W.ends (w : W κ l R Z EL own nm mx rt vm T h k n) {Q : Option Value → Heap → (Addr → Prop) → Prop} {v : Option Value} (hv : κ.M.sig.returnType = none → v = none) (hc : k ≤ R.cells) (hl : n ≤ R.slots) (hQ : ∀ S : Addr → Prop, (∀ x, x < h.size → Safe Z EL vm h x → S x) → Q v h S) {A : State}
    (hs : ∀ fs, (∀ (f : JFrame) (acts : List Action), f.method = κ.m → f.locked = none → f.entered = [] → (doReturn κ.e (T.setTop f) acts v).1 = T.setFrames fs) → Steps κ.p.tables κ.e κ.b A (T.setFrames fs)) : Fx κ (GQ κ Z EL R Q) A := by
  have w0 := w
  obtain ⟨q1, L, k0, X, e, hS, hk, hZ, ho, N, CC⟩ := w
  obtain ⟨a0, hEL⟩ := q1.2.2.2.2.2
  obtain ⟨fs, h1, h2, h3, h4⟩ := Stand.leaveW (s := κ.s) X hS (by rw [e]; exact hk) hv q1.2.2.2.1
  refine ⟨v, T.setFrames fs, hs fs h1, h2, h3, L, ⟨?_, N⟩, ?_, h4.1, h4.2.1, h4.2.2.1, h4.2.2.2.mono hc hl⟩
  · show Q v T.heap (Safe Z EL T.vm T.heap)
    rw [e]; exact hQ _ fun x hx S => (CHv.at X hZ hEL CC.1).safe hx S
  · have := CC.trans (CHv.at X hZ hEL CC.1)
    show CHr Z EL κ.s.vm κ.s.heap T.vm T.heap
    rw [e]; exact this
theorem W.retV (w : W κ l R Z EL own nm mx none vm T h k n) {Q : Option Value → Heap → (Addr → Prop) → Prop} (hd : decode κ.c.code pc = .ok (.return_, 1)) (hc : k ≤ R.cells) (hl : n ≤ R.slots) (hQ : ∀ S : Addr → Prop, (∀ x, x < h.size → Safe Z EL vm h x → S x) → Q none h S) : Go κ (GQ κ Z EL R Q) T pc Ls [] := by
  have w0 := w
  obtain ⟨q1, L, k0, X, -⟩ := w
  exact w0.ends (fun _ => rfl) hc hl hQ fun fs hr => X.returnOut q1.1 q1.2.2.1 hd hr
theorem W.retI (w : W κ l R Z EL own nm mx rt vm T h k n) {t : FieldType} (ht : rt = some t) (htk : t = .int ∨ t = .boolean ∨ t = .byte ∨ t = .char ∨ t = .short) {Q : Option Value → Heap → (Addr → Prop) → Prop} {z : Int32} (hn : narrow t (.int z) = .int z) (hd : decode κ.c.code pc = .ok (.ireturn, 1)) (hc : k ≤ R.cells) (hl : n ≤ R.slots) (hQ : ∀ S : Addr → Prop, (∀ x, x < h.size → Safe Z EL vm h x → S x) → Q (some (.int z)) h S) : Go κ (GQ κ Z EL R Q) T pc Ls (.int z :: st) := by
  have w0 := w
  obtain ⟨q1, L, k0, X, -⟩ := w
  subst ht
  exact w0.ends (fun q => by rw [q1.2.2.1] at q; cases q) hc hl hQ fun fs hr => retOut X q1.1 q1.2.2.1 hn (Or.inl ⟨rfl, htk, z, rfl⟩) hd hr
theorem W.retA (w : W κ l R Z EL own nm mx rt vm T h k n) {t : FieldType} (ht : rt = some t) (htk : t.isReference = true) {Q : Option Value → Heap → (Addr → Prop) → Prop} {v : Value} (hvr : v.isRef = true) (hn : narrow t v = v) (hd : decode κ.c.code pc = .ok (.areturn, 1)) (hc : k ≤ R.cells) (hl : n ≤ R.slots) (hQ : ∀ S : Addr → Prop, (∀ x, x < h.size → Safe Z EL vm h x → S x) → Q (some v) h S) : Go κ (GQ κ Z EL R Q) T pc Ls (v :: st) := by
  have w0 := w
  obtain ⟨q1, L, k0, X, -⟩ := w
  subst ht
  exact w0.ends (fun q => by rw [q1.2.2.1] at q; cases q) hc hl hQ fun fs hr => retOut X q1.1 q1.2.2.1 hn (Or.inr (Or.inr (Or.inr (Or.inr ⟨rfl, htk, hvr⟩)))) hd hr
end Laws
end Jvm.WK
namespace Jvm.WK
open Sem ClassFile Op Lib Jvm.Stand Jvm.Free Jvm.LawKit Jvm.RoadKit Bundle
/-! WK3: Strings, plainly -/
abbrev ST : String := "java/lang/String"
def lo8 (x : Int32) : Int32 := x.toInt8.toInt32
def hi8 (x : Int32) : Int32 := (x >>> ((8 : Int32) &&& 31)).toInt8.toInt32
def lo0 (x : Int32) : Int32 := (x >>> ((0 : Int32) &&& 31)).toInt8.toInt32
def IsC (cs : List Int32) : Prop := ∀ c ∈ cs, ¬ c < 0 ∧ ¬ 65535 < c
def IsL (cs : List Int32) : Prop := ∀ c ∈ cs, ¬ c < 0 ∧ ¬ 255 < c
theorem IsL.isC {cs : List Int32} (h : IsL cs) : IsC cs := fun c hc => ⟨(h c hc).1, fun q => (h c hc).2 (by
  rw [Int32.lt_iff_toInt_lt] at q ⊢
  have e1 : (65535 : Int32).toInt = 65535 := by decide
  have e2 : (255 : Int32).toInt = 255 := by decide
  omega)⟩
def u16 : List Int32 → List Int32
  | [] => []
  | c :: cs => lo0 c :: hi8 c :: u16 cs
theorem u16_len : ∀ cs : List Int32, (u16 cs).length = 2 * cs.length
  | [] => rfl
  | c :: cs => by simp only [u16, List.length_cons, u16_len cs]; omega
theorem u16_app : ∀ a b : List Int32, u16 (a ++ b) = u16 a ++ u16 b
  | [], b => rfl
  | c :: cs, b => by simp only [List.cons_append, u16, u16_app cs b]
theorem u16_at : ∀ (cs : List Int32) (i : Nat) (c : Int32), cs[i]? = some c → (u16 cs)[2 * i]? = some (lo0 c) ∧ (u16 cs)[2 * i + 1]? = some (hi8 c)
  | [], i, c, h => by simp at h
  | d :: cs, 0, c, h => by
    have e : d = c := by simpa using h
    subst e
    exact ⟨rfl, rfl⟩
  | d :: cs, i + 1, c, h => by
    have h' : cs[i]? = some c := by simpa using h
    obtain ⟨h1, h2⟩ := u16_at cs i c h'
    have e1 : 2 * (i + 1) = 2 * i + 1 + 1 := by omega
    have e2 : 2 * (i + 1) + 1 = 2 * i + 1 + 1 + 1 := by omega
    rw [e1]
    exact ⟨by simpa [u16] using h1, by simpa [u16] using h2⟩
theorem ofNat_toInt {i : Nat} (h : i < 2147483648) : (Int32.ofNat i).toInt = (i : Int) := Int32.toInt_ofNat_small (by omega)
theorem ofNat_add {i j : Nat} : Int32.ofNat i + Int32.ofNat j = Int32.ofNat (i + j) := (Int32.ofNat_add i j).symm
theorem ofNat_succ {i : Nat} : Int32.ofNat i + (1 : Int32) = Int32.ofNat (i + 1) := (Int32.ofNat_add i 1).symm
theorem ofNat_lt {i j : Nat} (hi : i < 2147483648) (hj : j < 2147483648) : Int32.ofNat i < Int32.ofNat j ↔ i < j := by
  rw [Int32.lt_iff_toInt_lt, ofNat_toInt hi, ofNat_toInt hj]; omega
theorem ofNat_inj {i j : Nat} (hi : i < 2147483648) (hj : j < 2147483648) : Int32.ofNat i = Int32.ofNat j ↔ i = j := by
  rw [← Int32.toInt_inj, ofNat_toInt hi, ofNat_toInt hj]; omega
theorem ofNat_dbl {i : Nat} (h : i < 1073741824) : Int32.ofNat i <<< ((1 : Int32) &&& 31) = Int32.ofNat (2 * i) := by
  rw [← Int32.toInt_inj, ofNat_toInt (by omega)]
  have h1 := c_ishl (Int32.ofNat i) 1 1 (by decide)
  rw [ofNat_toInt (by omega)] at h1
  have h2 := rng32 (Int32.ofNat i <<< ((1 : Int32) &&& 31))
  push_cast at h1 ⊢
  omega
theorem ofNat_half {i : Nat} (h : 2 * i < 2147483648) : Int32.ofNat (2 * i) >>> ((1 : Int32) &&& 31) = Int32.ofNat i := by
  rw [← Int32.toInt_inj, ofNat_toInt (by omega), c_ishr _ 1 1 (by decide), ofNat_toInt (by omega)]
  push_cast
  omega
theorem shr0 (x : Int32) : x >>> ((0 : Int32) &&& 31) = x := by
  rw [← Int32.toInt_inj, c_ishr _ 0 0 (by decide)]
  simp
theorem fits_lo8 (x : Int32) : fits .byte (.int (lo8 x)) = true := Jvm.Free.SBG.fits_of_int8 _
theorem fits_i2b (x : Int32) : fits .byte (.int x.toInt8.toInt32) = true := Jvm.Free.SBG.fits_of_int8 _
theorem nar_i2b (x : Int32) : nar .byte x.toInt8.toInt32 = x.toInt8.toInt32 := by simp [nar]
theorem fits_i2c (x : Int32) : fits .char (.int x.toUInt32.toUInt16.toUInt32.toInt32) = true := by
  have h := c_i2c x
  have e1 : (0 : Int32).toInt = 0 := by decide
  have e2 : (65535 : Int32).toInt = 65535 := by decide
  simp only [fits, Bool.and_eq_true, decide_eq_true_eq, Int32.le_iff_toInt_le, e1, e2]
  omega
theorem nar_i2c (x : Int32) : nar .char x.toUInt32.toUInt16.toUInt32.toInt32 = x.toUInt32.toUInt16.toUInt32.toInt32 := by
  simp only [nar, UInt32.toUInt32_toInt32, UInt16.toUInt16_toUInt32]
theorem char_of {x : Int32} (h0 : ¬ x < 0) (h1 : ¬ 65535 < x) : x.toUInt32.toUInt16.toUInt32.toInt32 = x := by
  rw [← Int32.toInt_inj]
  have h := c_i2c x
  rw [Int32.lt_iff_toInt_lt] at h0 h1
  have e1 : (0 : Int32).toInt = 0 := by decide
  have e2 : (65535 : Int32).toInt = 65535 := by decide
  omega
theorem narrow_char {x : Int32} (h0 : ¬ x < 0) (h1 : ¬ 65535 < x) : narrow .char (.int x) = .int x := by
  have := char_of h0 h1
  show Value.int x.toUInt32.toUInt16.toUInt32.toInt32 = _
  rw [this]
theorem lo8_and {x : Int32} (h0 : ¬ x < 0) (h1 : ¬ 255 < x) : lo8 x &&& (255 : Int32) = x := by
  rw [← Int32.toInt_inj, c_mask _ 255 8 (by decide) (by decide)]
  have h := c_i2b x
  rw [Int32.lt_iff_toInt_lt] at h0 h1
  have e1 : (0 : Int32).toInt = 0 := by decide
  have e2 : (255 : Int32).toInt = 255 := by decide
  unfold lo8
  omega
theorem lo8_inj {x y : Int32} (h0 : ¬ x < 0) (h1 : ¬ 255 < x) (g0 : ¬ y < 0) (g1 : ¬ 255 < y) (e : lo8 x = lo8 y) : x = y := by
  rw [← lo8_and h0 h1, ← lo8_and g0 g1, e]
theorem getc {c : Int32} (h0 : ¬ c < 0) (h1 : ¬ 65535 < c) : (((lo0 c &&& (255 : Int32)) <<< ((0 : Int32) &&& 31)) ||| ((hi8 c &&& (255 : Int32)) <<< ((8 : Int32) &&& 31))).toUInt32.toUInt16.toUInt32.toInt32 = c := by
  rw [← Int32.toInt_inj]
  rw [Int32.lt_iff_toInt_lt] at h0 h1
  have e1 : (0 : Int32).toInt = 0 := by decide
  have e2 : (65535 : Int32).toInt = 65535 := by decide
  have a0 := c_ishr c 0 0 (by decide)
  have a1 := c_i2b (c >>> ((0 : Int32) &&& 31))
  have a2 := c_mask (lo0 c) 255 8 (by decide) (by decide)
  have a3 := c_ishl (lo0 c &&& 255) 0 0 (by decide)
  have a4 := rng32 ((lo0 c &&& (255 : Int32)) <<< ((0 : Int32) &&& 31))
  have b0 := c_ishr c 8 8 (by decide)
  have b1 := c_i2b (c >>> ((8 : Int32) &&& 31))
  have b2 := c_mask (hi8 c) 255 8 (by decide) (by decide)
  have b3 := c_ishl (hi8 c &&& 255) 8 8 (by decide)
  have b4 := rng32 ((hi8 c &&& (255 : Int32)) <<< ((8 : Int32) &&& 31))
  have cc := c_or' ((lo0 c &&& (255 : Int32)) <<< ((0 : Int32) &&& 31)) ((hi8 c &&& (255 : Int32)) <<< ((8 : Int32) &&& 31)) 8 (by decide) 256 (by decide)
  have dd := c_i2c (((lo0 c &&& (255 : Int32)) <<< ((0 : Int32) &&& 31)) ||| ((hi8 c &&& (255 : Int32)) <<< ((8 : Int32) &&& 31)))
  have ee := rng32 (((lo0 c &&& (255 : Int32)) <<< ((0 : Int32) &&& 31)) ||| ((hi8 c &&& (255 : Int32)) <<< ((8 : Int32) &&& 31)))
  unfold lo0 hi8 at *
  generalize (c >>> ((0 : Int32) &&& 31)).toInt8.toInt32 = x0 at *
  generalize (c >>> ((8 : Int32) &&& 31)).toInt8.toInt32 = x1 at *
  generalize (x0 &&& (255 : Int32)) <<< ((0 : Int32) &&& 31) = y0 at *
  generalize (x1 &&& (255 : Int32)) <<< ((8 : Int32) &&& 31) = y1 at *
  generalize (y0 ||| y1).toUInt32.toUInt16.toUInt32.toInt32 = z at *
  have c2 : y1.toInt % 256 = 0 := by omega
  have c3 : 0 ≤ y0.toInt := by omega
  have c4 : y0.toInt < 256 := by omega
  have cc := cc c2 c3 c4
  omega
theorem set_map {pre : List Int32} {k : Nat} {a : Int32} (f : Int32 → Int32) : (pre.map f ++ List.replicate (k + 1) (0 : Int32)).set pre.length a = pre.map f ++ a :: List.replicate k 0 := by
  rw [List.set_append_right _ _ (by simp)]
  simp [List.replicate_succ]
theorem set_u16 {pre : List Int32} {k : Nat} {a b : Int32} : ((u16 pre ++ List.replicate (2 * (k + 1)) (0 : Int32)).set (2 * pre.length) a).set (2 * pre.length + 1) b = u16 pre ++ a :: b :: List.replicate (2 * k) 0 := by
  have e : 2 * (k + 1) = 2 * k + 1 + 1 := by omega
  rw [e, List.replicate_succ, List.replicate_succ, List.set_append_right _ _ (by rw [u16_len]; omega)]
  rw [u16_len, Nat.sub_self, List.set_cons_zero, List.set_append_right _ _ (by rw [u16_len]; omega), u16_len]
  have e2 : 2 * pre.length + 1 - 2 * pre.length = 0 + 1 := by omega
  rw [e2, List.set_cons_succ, List.set_cons_zero]
theorem take_succ {cs : List Int32} {i : Nat} {c : Int32} (h : cs[i]? = some c) : cs.take (i + 1) = cs.take i ++ [c] := by
  rw [List.take_add_one, h]; rfl
/-- a String that spells cs -/
def Str (Z : State) (h : Heap) (a : Addr) (cs : List Int32) : Prop :=
  ∃ b, Exa Z h a ST ∧ Fld Z h a ST "value" "[B" (.ref b) ∧ IsC cs ∧ cs.length < 1073741824 ∧
    ((IsL cs ∧ Fld Z h a ST "coder" "B" (.int 0) ∧ Ary Z h b .byte (cs.map lo8)) ∨ (¬ IsL cs ∧ Fld Z h a ST "coder" "B" (.int 1) ∧ Ary Z h b .byte (u16 cs)))
section StrFacts
variable {Z : State} {h h' : Heap} {a : Addr} {cs : List Int32} {ws : List Addr}
theorem Str.ext (E : Ext h h') (F : Str Z h a cs) : Str Z h' a cs := by
  obtain ⟨b, f1, f2, f3, f4, f5⟩ := F
  exact ⟨b, f1.ext E, f2.ext E, f3, f4, f5.imp (fun q => ⟨q.1, q.2.1.ext E, q.2.2.ext E⟩) (fun q => ⟨q.1, q.2.1.ext E, q.2.2.ext E⟩)⟩
theorem Str.exa (F : Str Z h a cs) : Exa Z h a ST := by obtain ⟨b, f1, -⟩ := F; exact f1
theorem Str.lt (F : Str Z h a cs) : a < h.size := F.exa.lt
theorem Str.isC (F : Str Z h a cs) : IsC cs := by obtain ⟨b, f1, f2, f3, -⟩ := F; exact f3
theorem Keep.toExt (K : Keep h h' []) : Ext h h' := ⟨K.1, fun x c q => K.2.1 x c q nin0⟩
/-- kept where all that was written is new (at or above h.size) -/
theorem Str.keepNew {h0 : Heap} (K : Keep h0 h' ws) (F : Str Z h0 a cs) (hw : ∀ x ∈ ws, h0.size ≤ x) : Str Z h' a cs :=
  F.ext ⟨K.1, fun x c q => K.2.1 x c q fun hm => absurd (Array.getElem?_eq_some_iff.mp q).1 (Nat.not_lt.mpr (hw x hm))⟩
end StrFacts
end Jvm.WK
namespace Jvm.WK
open Sem ClassFile Op Lib Jvm.Stand Jvm.Free Jvm.LawKit Jvm.RoadKit Bundle
section StrMore
variable {Z : State} {h h' : Heap} {a b x y : Addr} {cs ds : List Int32} {ws : List Addr} {a0 : Array Value}
theorem Ary.ne_exa {C : String} {kk : Nat} {ty : FieldType} {vs : List Int32} (F : Ary Z h y ty vs) (E : Exa Z h x C) (wi : (Cond.instantiable C kk).before a0 Z = true) : y ≠ x := by
  obtain ⟨c, A, -⟩ := F; exact fun e => ne_arr E wi A e.symm
theorem Ary.inj {ty : FieldType} {us vs : List Int32} (F : Ary Z h a ty us) (G : Ary Z h a ty vs) : us = vs := by
  obtain ⟨c, A, r1, -⟩ := F
  obtain ⟨c', A', r1', -⟩ := G
  cases A.1.symm.trans A'.1
  have := r1.symm.trans r1'
  exact (List.map_inj_right (fun x y q => by cases q; rfl)).mp this
theorem Ary.isC (F : Ary Z h a .char cs) : IsC cs := fun c hc => by
  have := F.fit c hc
  exact rng_char this
theorem Fld.inj {C n d : String} {v w : Value} (F : Fld Z h a C n d v) (G : Fld Z h a C n d w) : v = w := Classical.byContradiction fun q => F.ne G q rfl
theorem lo8_list : ∀ {cs ds : List Int32}, IsL cs → IsL ds → cs.map lo8 = ds.map lo8 → cs = ds
  | [], [], _, _, _ => rfl
  | [], d :: ds, _, _, h => by simp at h
  | c :: cs, [], _, _, h => by simp at h
  | c :: cs, d :: ds, h1, h2, h => by
    simp only [List.map_cons, List.cons.injEq] at h
    have e1 := lo8_inj (h1 c (List.mem_cons_self ..)).1 (h1 c (List.mem_cons_self ..)).2 (h2 d (List.mem_cons_self ..)).1 (h2 d (List.mem_cons_self ..)).2 h.1
    have e2 := lo8_list (fun x hx => h1 x (List.mem_cons_of_mem _ hx)) (fun x hx => h2 x (List.mem_cons_of_mem _ hx)) h.2
    rw [e1, e2]
theorem Str.lat (F : Str Z h a cs) (hL : IsL cs) : ∃ b, Fld Z h a ST "value" "[B" (.ref b) ∧ Fld Z h a ST "coder" "B" (.int 0) ∧ Ary Z h b .byte (cs.map lo8) := by
  obtain ⟨b, f1, f2, f3, f4, f5 | f5⟩ := F
  · exact ⟨b, f2, f5.2⟩
  · exact absurd hL f5.1
theorem Str.inj (F : Str Z h a cs) (G : Str Z h a ds) (hc : IsL cs) (hd : IsL ds) : cs = ds := by
  obtain ⟨b, f1, f2, f3⟩ := F.lat hc
  obtain ⟨b', g1, g2, g3⟩ := G.lat hd
  have := Fld.inj f1 g1
  cases this
  exact lo8_list hc hd (f3.inj g3)
theorem Str.len_lt (F : Str Z h a cs) : cs.length < 1073741824 := by obtain ⟨b, f1, f2, f3, f4, -⟩ := F; exact f4
theorem cod0 {n : Nat} : (((Int32.ofNat n - Int32.ofNat n).toUInt32 >>> ((31 : Int32) &&& 31).toUInt32).toInt32).toInt8.toInt32 = 0 := by
  rw [Int32.sub_self]; decide
theorem cod1 {n : Nat} (h0 : 0 < n) (h : 2 * n < 2147483648) : (((Int32.ofNat n - Int32.ofNat (2 * n)).toUInt32 >>> ((31 : Int32) &&& 31).toUInt32).toInt32).toInt8.toInt32 = 1 := by
  have e : ((Int32.ofNat n - Int32.ofNat (2 * n)).toUInt32 >>> ((31 : Int32) &&& 31).toUInt32).toInt32 = 1 := by
    rw [← Int32.toInt_inj, c_iushr _ 31 31 (by decide) (by decide)]
    have h1 := c_isub (Int32.ofNat n) (Int32.ofNat (2 * n))
    rw [ofNat_toInt (by omega), ofNat_toInt (by omega)] at h1
    have h2 := rng32 (Int32.ofNat n - Int32.ofNat (2 * n))
    have h3 : (1 : Int32).toInt = 1 := by decide
    rw [h3]
    omega
  rw [e]; decide
theorem isL_of {cs : List Int32} (hc : IsC cs) (h : ∀ i c, i < cs.length → cs[i]? = some c → ¬ 255 < c) : IsL cs := fun c hm => by
  obtain ⟨i, hi, rfl⟩ := List.getElem_of_mem hm
  exact ⟨(hc _ hm).1, h i _ hi (List.getElem?_eq_getElem hi)⟩
theorem not_isL {cs : List Int32} {i : Nat} {c : Int32} (h : cs[i]? = some c) (q : 255 < c) : ¬ IsL cs := fun hl => (hl c (List.mem_of_getElem? h)).2 q
end StrMore
end Jvm.WK
namespace Jvm.WK
open Sem ClassFile Op Lib Jvm.Stand Jvm.Free Jvm.LawKit Jvm.RoadKit Bundle
theorem fitsCh {x : Int32} (h0 : ¬ x < 0) (h1 : ¬ 65535 < x) : fits .char (.int x) = true := by
  have := fits_i2c x
  rw [char_of h0 h1] at this; exact this
theorem narCh {x : Int32} (h0 : ¬ x < 0) (h1 : ¬ 65535 < x) : nar .char x = x := char_of h0 h1
theorem and255 (x : Int32) : ¬ (x &&& (255 : Int32)).toUInt32.toUInt16.toUInt32.toInt32 < 0 ∧ ¬ 255 < (x &&& (255 : Int32)).toUInt32.toUInt16.toUInt32.toInt32 := by
  have h1 := c_and x 255 (by decide)
  have h2 := c_i2c (x &&& 255)
  have h3 : (255 : Int32).toInt = 255 := by decide
  have h4 : (0 : Int32).toInt = 0 := by decide
  rw [Int32.lt_iff_toInt_lt, Int32.lt_iff_toInt_lt]
  omega
theorem and255' (x : Int32) : ¬ (x &&& (255 : Int32)) < 0 ∧ ¬ 255 < (x &&& (255 : Int32)) := by
  have h1 := c_and x 255 (by decide)
  have h3 : (255 : Int32).toInt = 255 := by decide
  have h4 : (0 : Int32).toInt = 0 := by decide
  rw [Int32.lt_iff_toInt_lt, Int32.lt_iff_toInt_lt]
  omega
theorem i2c_bounds (x : Int32) : ¬ x.toUInt32.toUInt16.toUInt32.toInt32 < 0 ∧ ¬ 65535 < x.toUInt32.toUInt16.toUInt32.toInt32 := by
  have h2 := c_i2c x
  have h3 : (65535 : Int32).toInt = 65535 := by decide
  have h4 : (0 : Int32).toInt = 0 := by decide
  rw [Int32.lt_iff_toInt_lt, Int32.lt_iff_toInt_lt]
  omega
theorem le255 {x : Int32} (h : ¬ 255 < x) : ¬ 65535 < x := by
  have h3 : (65535 : Int32).toInt = 65535 := by decide
  have h4 : (255 : Int32).toInt = 255 := by decide
  rw [Int32.lt_iff_toInt_lt] at h ⊢
  omega
/-- a remainder of a masked int is a small number -/
theorem remNat (x q m : Int32) (n : Nat) (hq : 0 ≤ q.toInt) (hm : m.toInt = n) (h0 : 0 < n) : ∃ k, k < n ∧ (x &&& q) % m = Int32.ofNat k := by
  have h1 := c_and x q hq
  have h2 := (c_irem (x &&& q) m n hm).1 h1.1
  have h3 := Int.emod_nonneg (x &&& q).toInt (show (n : Int) ≠ 0 by omega)
  have h4 := Int.emod_lt_of_pos (x &&& q).toInt (show (0 : Int) < n by omega)
  have h5 := rng32 m
  refine ⟨((x &&& q).toInt % n).toNat, by omega, ?_⟩
  rw [← Int32.toInt_inj, h2, ofNat_toInt (by omega)]
  omega
/-- an int masked by a small constant is a small number -/
theorem andNat (x m : Int32) (n : Nat) (hm : m.toInt = n) : ∃ k, k ≤ n ∧ (x &&& m) = Int32.ofNat k := by
  have h1 := c_and x m (by omega)
  have h5 := rng32 m
  refine ⟨(x &&& m).toInt.toNat, by omega, ?_⟩
  rw [← Int32.toInt_inj, ofNat_toInt (by omega)]
  omega
end Jvm.WK
namespace Jvm.WK
open Sem ClassFile Op Lib Jvm.Stand Jvm.Free Jvm.LawKit Jvm.RoadKit Bundle
/-- a String is kept where just an object of another class was written -/
theorem Str.keepObj {Z : State} {h h' : Heap} {a x : Addr} {cs : List Int32} {C : String} {kk : Nat} {a0 : Array Value} (F : Str Z h a cs) (K : Keep h h' [x]) (E : Exa Z h x C) (hC : C ≠ ST) (wi : (Cond.instantiable C kk).before a0 Z = true) : Str Z h' a cs := by
  obtain ⟨b, f1, f2, f3, f4, f5⟩ := F
  have n1 : a ∉ [x] := ninS (Exa.ne f1 E (Ne.symm hC)) nin0
  have n2 : ∀ {vs : List Int32}, Ary Z h b .byte vs → b ∉ [x] := fun A => ninS (A.ne_exa E wi) nin0
  exact ⟨b, f1.keep K, f2.keep K n1, f3, f4, f5.imp (fun q => ⟨q.1, q.2.1.keep K n1, q.2.2.keep K (n2 q.2.2)⟩) (fun q => ⟨q.1, q.2.1.keep K n1, q.2.2.keep K (n2 q.2.2)⟩)⟩
theorem Ary.ofStatic {Z : State} {a : Addr} {args : Array Value} {t : Term} {AL : List Int32} (ev : t.eval args Z none [] Z = some (.ref a)) (hx : (Cond.arrayOf t .int).value args Z none Z [] = some true) (n : Nat) (hn : AL.length = n) (hlen : (Term.length t).eval args Z none [] Z = some (.int (Int32.ofNat n))) (hl : n < 2147483648) (hr : ∀ (i : Nat) (v : Int32), AL[i]? = some v → (Term.elem t (.int (Int32.ofNat i))).eval args Z none [] Z = some (.int v)) : Ary Z Z.heap a .int AL := by
  obtain ⟨c, A⟩ := Arr.start ev hx
  have hz : c.slots.size = n := by
    simp only [Term.eval, ev, Option.bind_eq_bind, Option.bind_some, A.fin (Vm.Alike.refl _)] at hlen
    split at hlen
    · rename_i hq
      have := Value.int.inj (Option.some.inj hlen)
      exact (ofNat_inj (by omega) hl).mp this
    · simp at hlen
  refine ⟨c, A, List.ext_getElem? fun i => ?_, by omega, fun v hv => rfl⟩
  by_cases hi : i < n
  · have hv := List.getElem?_eq_getElem (l := AL) (i := i) (by omega)
    have q := elem_in (hr i _ hv) ev (Term.int_eval _) A.1
    rw [clamp_ofNat (by omega)] at q
    rw [List.getElem?_map, hv, Array.getElem?_toList]; exact q.2
  · rw [List.getElem?_eq_none (by simp; omega), List.getElem?_eq_none (by simp; omega)]
theorem noIns {Z : State} {a0 : Array Value} {C O K : String} {nn : Nat} (w : (Cond.superclass C O).before a0 Z = true) (wo : (Cond.noSuperclass O).before a0 Z = true) (wi : (Cond.instantiable K nn).before a0 Z = true) (h1 : C ≠ K) (h2 : O ≠ K) : ∃ c t, Z.vm.findClass C = some c ∧ Z.vm.findClass K = some t ∧ Z.vm.assignable c t = false := by
  obtain ⟨t, kt, g1, g2, g3, g4, -⟩ := Cond.instantiable_spec wi
  have n0 : NS Z O K := by
    obtain ⟨c, k, a1, a2, a3, -, -⟩ := Cond.noSuperclass_spec wo
    have ne := ids_ne a1 g1 h2
    refine ⟨c, t, a1, g1, fun fuel => ?_⟩
    cases fuel with
    | zero => rfl
    | succ f => simp [Vm.isSubclassAux, ne, a2, a3]
  obtain ⟨c, t', h0, g0, n3⟩ := NS.step w n0 h1
  cases g1.symm.trans g0
  obtain ⟨p, k, kp, q1, q2, q3, q4, q5, -, q7⟩ := Cond.superclass_spec h0 w
  have ne := ids_ne h0 g0 h1
  have hi : kt.isInterface = false := by
    rw [Bool.or_eq_false_iff] at g4; exact g4.1
  refine ⟨c, _, h0, g0, ?_⟩
  show Z.vm.assignableAux (255 + 1) c _ = false
  simp [Vm.assignableAux, ne, q2, g2, q5, g3, hi, Vm.isSubclass, n3]
end Jvm.WK
namespace Jvm.Pilot.@@N@@
open Jvm Jvm.ClassFile Sem Op Lib Jvm.Free Jvm.Stand Jvm.LawKit Jvm.RoadKit Jvm.WK Bundle Jvm.Pilot.@@N@@.Jvm.D
def JS (Z : State) : Prop := (∃ c : Int32, Sta Z Z.heap "java/lang/String" "COMPACT_STRINGS" "Z" (.int c) ∧ ¬ c = 0) ∧ ∃ f : Value, Sta Z Z.heap "jdk/internal/util/Preconditions" "SIOOBE_FORMATTER" "Ljava/util/function/BiFunction;" f ∧ f.isRef = true
def AL : List Int32 := [1207963663, 1207963663, 1207963663, 1207963663, 1207963663, 1207963663, 1207963663, 1207963663, 1207963663, 1476411407, 1342193679, 1476411407, 1610629135, 1342193679, 1207963663, 1207963663, 1207963663, 1207963663, 1207963663, 1207963663, 1207963663, 1207963663, 1207963663, 1207963663, 1207963663, 1207963663, 1207963663, 1207963663, 1342193679, 1342193679, 1342193679, 1476411407, 1610629132, 1744830488, 1744830488, 671088664, 671113242, 671088664, 1744830488, 1744830488, -402653163, -402653162, 1744830488, 536870937, 939524120, 536870932, 939524120, 939524120, 402667017, 402667017, 402667017, 402667017, 402667017, 402667017, 402667017, 402667017, 402667017, 402667017, 939524120, 1744830488, -402653159, 1744830489, -402653159, 1744830488, 1744830488, 8552417, 8552417, 8552417, 8552417, 8552417, 8552417, 8552417, 8552417, 8552417, 8552417, 8552417, 8552417, 8552417, 8552417, 8552417, 8552417, 8552417, 8552417, 8552417, 8552417, 8552417, 8552417, 8552417, 8552417, 8552417, 8552417, -402653163, 1744830488, -402653162, 1744830491, 1744850967, 1744830491, 8486882, 8486882, 8486882, 8486882, 8486882, 8486882, 8486882, 8486882, 8486882, 8486882, 8486882, 8486882, 8486882, 8486882, 8486882, 8486882, 8486882, 8486882, 8486882, 8486882, 8486882, 8486882, 8486882, 8486882, 8486882, 8486882, -402653163, 1744830489, -402653162, 1744830489, 1207963663, 1207963663, 1207963663, 1207963663, 1207963663, 1207963663, 1342181391, 1207963663, 1207963663, 1207963663, 1207963663, 1207963663, 1207963663, 1207963663, 1207963663, 1207963663, 1207963663, 1207963663, 1207963663, 1207963663, 1207963663, 1207963663, 1207963663, 1207963663, 1207963663, 1207963663, 1207963663, 1207963663, 1207963663, 1207963663, 1207963663, 1207963663, 1207963663, 939524108, 1744830488, 671113242, 671113242, 671113242, 671113242, 1744830492, 1744830488, 1744830491, 1744830492, 28677, -402653155, 1744830489, 1207963664, 1744830492, 1744830491, 671088668, 671088665, 402654731, 402654731, 1744830491, 134049794, 1744830488, 1744830488, 1744830491, 402654475, 28677, -402653154, 1744832523, 1744832523, 1744832523, 1744830488, 8548353, 8548353, 8548353, 8548353, 8548353, 8548353, 8548353, 8548353, 8548353, 8548353, 8548353, 8548353, 8548353, 8548353, 8548353, 8548353, 8548353, 8548353, 8548353, 8548353, 8548353, 8548353, 8548353, 1744830489, 8548353, 8548353, 8548353, 8548353, 8548353, 8548353, 8548353, 134049794, 8482818, 8482818, 8482818, 8482818, 8482818, 8482818, 8482818, 8482818, 8482818, 8482818, 8482818, 8482818, 8482818, 8482818, 8482818, 8482818, 8482818, 8482818, 8482818, 8482818, 8482818, 8482818, 8482818, 1744830489, 8482818, 8482818, 8482818, 8482818, 8482818, 8482818, 8482818, 102592514]
def ARows : List Jvm.Cond := AL.zipIdx.map fun q => Jvm.Cond.eq (Jvm.Term.elem (Jvm.Term.static "java/lang/CharacterDataLatin1" "A" "[I") (Jvm.Term.int (Int32.ofNat q.2))) (Jvm.Term.int q.1)
set_option maxRecDepth 65536 in
theorem own_rows : (jdkStatics_1.drop 17).take 256 = ARows := by decide +kernel
theorem own_row {i : Nat} {v : Int32} (h : AL[i]? = some v) : Jvm.Cond.eq (Jvm.Term.elem (Jvm.Term.static "java/lang/CharacterDataLatin1" "A" "[I") (Jvm.Term.int (Int32.ofNat i))) (Jvm.Term.int v) ∈ jdkStatics_1 := by
  have h1 : AL.zipIdx[i]? = some (v, i) := by rw [List.getElem?_zipIdx, h]; simp
  have h2 : Jvm.Cond.eq (Jvm.Term.elem (Jvm.Term.static "java/lang/CharacterDataLatin1" "A" "[I") (Jvm.Term.int (Int32.ofNat i))) (Jvm.Term.int v) ∈ ARows := List.mem_map.mpr ⟨(v, i), List.mem_of_getElem? h1, rfl⟩
  rw [← own_rows] at h2
  exact List.mem_of_mem_drop (List.mem_of_mem_take h2)
def JA (Z : State) : Prop := (∃ x : Addr, Sta Z Z.heap "java/lang/CharacterDataLatin1" "instance" "Ljava/lang/CharacterDataLatin1;" (.ref x) ∧ Exa Z Z.heap x "java/lang/CharacterDataLatin1") ∧ ∃ y : Addr, Sta Z Z.heap "java/lang/CharacterDataLatin1" "A" "[I" (.ref y) ∧ Ary Z Z.heap y .int AL
def CT (Z : State) (c0 c1 c2 c3 : Addr) : Prop := (Sta Z Z.heap "com/example/faturista/faturista/engine/missedcharges/ChargeCategory" "PROCEDURE" "Lcom/example/faturista/faturista/engine/missedcharges/ChargeCategory;" (.ref c0) ∧ Exa Z Z.heap c0 "com/example/faturista/faturista/engine/missedcharges/ChargeCategory") ∧ (Sta Z Z.heap "com/example/faturista/faturista/engine/missedcharges/ChargeCategory" "SUPPLY" "Lcom/example/faturista/faturista/engine/missedcharges/ChargeCategory;" (.ref c1) ∧ Exa Z Z.heap c1 "com/example/faturista/faturista/engine/missedcharges/ChargeCategory") ∧ (Sta Z Z.heap "com/example/faturista/faturista/engine/missedcharges/ChargeCategory" "LAB" "Lcom/example/faturista/faturista/engine/missedcharges/ChargeCategory;" (.ref c2) ∧ Exa Z Z.heap c2 "com/example/faturista/faturista/engine/missedcharges/ChargeCategory") ∧ (Sta Z Z.heap "com/example/faturista/faturista/engine/missedcharges/ChargeCategory" "IMAGING" "Lcom/example/faturista/faturista/engine/missedcharges/ChargeCategory;" (.ref c3) ∧ Exa Z Z.heap c3 "com/example/faturista/faturista/engine/missedcharges/ChargeCategory") ∧ (c0 ≠ c1 ∧ c0 ≠ c2 ∧ c0 ≠ c3 ∧ c1 ≠ c2 ∧ c1 ≠ c3 ∧ c2 ≠ c3)
def ct (c0 c1 c2 c3 : Addr) (z : Int32) : Addr := if z = 0 then c0 else if z = 1 then c1 else if z = 2 then c2 else c3
def kl (x : Int32) : Int32 := 1 + ((x.toUInt32 >>> ((16 : Int32) &&& 31).toUInt32).toInt32 &&& (1 : Int32))
def b0 (x : Int32) : Int32 := x &&& (255 : Int32)
def b1 (x : Int32) : Int32 := (x.toUInt32 >>> ((8 : Int32) &&& 31).toUInt32).toInt32 &&& (255 : Int32)
def kcs (x : Int32) : List Int32 := if kl x = 1 then [b0 x] else [b0 x, b1 x]
theorem kcs_L (x : Int32) : IsL (kcs x) := fun c hc => by
  have : c = b0 x ∨ c = b1 x := by unfold kcs at hc; split at hc <;> simp at hc <;> first | exact Or.inl hc | exact hc
  rcases this with rfl | rfl
  · exact and255' _
  · exact and255' _
theorem kcs_eq {x y : Int32} : kcs x = kcs y ↔ (kl x = kl y ∧ b0 x = b0 y ∧ (kl x = 1 ∨ b1 x = b1 y)) := by
  have h2 : ∀ z, kl z = 1 ∨ kl z = 2 := fun z => by
    obtain ⟨k, hk, e⟩ := andNat ((z.toUInt32 >>> ((16 : Int32) &&& 31).toUInt32).toInt32) 1 1 (by decide)
    unfold kl; rw [e]
    obtain rfl | rfl : k = 0 ∨ k = 1 := by omega
    · exact Or.inl (by decide)
    · exact Or.inr (by decide)
  have n12 : ¬ (2 : Int32) = 1 := by decide
  have n21 : ¬ (1 : Int32) = 2 := by decide
  unfold kcs
  rcases h2 x with hx | hx <;> rcases h2 y with hy | hy <;> simp [hx, hy, n12, n21]
theorem and3 (x : Int32) : (x &&& (3 : Int32)) = 0 ∨ (x &&& (3 : Int32)) = 1 ∨ (x &&& (3 : Int32)) = 2 ∨ (x &&& (3 : Int32)) = 3 := by
  obtain ⟨k, hk, e⟩ := andNat x 3 3 (by decide)
  rw [e]
  obtain rfl | rfl | rfl | rfl : k = 0 ∨ k = 1 ∨ k = 2 ∨ k = 3 := by omega
  all_goals decide
theorem ct_eq {c0 c1 c2 c3 : Addr} (h : c0 ≠ c1 ∧ c0 ≠ c2 ∧ c0 ≠ c3 ∧ c1 ≠ c2 ∧ c1 ≠ c3 ∧ c2 ≠ c3) (x y : Int32) : ct c0 c1 c2 c3 (x &&& 3) = ct c0 c1 c2 c3 (y &&& 3) ↔ (x &&& 3) = (y &&& 3) := by
  obtain ⟨h1, h2, h3, h4, h5, h6⟩ := h
  have e0 : ct c0 c1 c2 c3 0 = c0 := rfl
  have e1 : ct c0 c1 c2 c3 1 = c1 := rfl
  have e2 : ct c0 c1 c2 c3 2 = c2 := rfl
  have e3 : ct c0 c1 c2 c3 3 = c3 := rfl
  rcases and3 x with hx | hx | hx | hx <;> rcases and3 y with hy | hy | hy | hy <;> rw [hx, hy] <;> simp only [e0, e1, e2, e3] <;> first | exact ⟨fun _ => rfl, fun _ => rfl⟩ | exact ⟨fun q => absurd q (by assumption), fun q => absurd q (by decide)⟩ | exact ⟨fun q => absurd q.symm (by assumption), fun q => absurd q (by decide)⟩
theorem own_str {a0 : Array Value} {Z : State} (hw : ∀ d ∈ tables_1, d.before a0 Z = true) : ∀ c ∈ Bundle.stringAtoms, c.before a0 Z = true := by
  have h : ∀ c ∈ Bundle.stringAtoms, c ∈ tables_1 := by decide +kernel
  exact fun c hc => hw c (h c hc)
theorem own_eqi {args : Array Value} {s : State} {t : Term} {z : Int32} (h : (Jvm.Cond.eq t (.int z)).value args s none s [] = some true) : t.eval args s none [] s = some (.int z) := eqv_i (Term.int_eval z) h
theorem own_lt256 {i : Nat} (h : i < 256) : ¬ (Int32.ofNat i) < 0 ∧ ¬ 255 < Int32.ofNat i := ⟨nneg_ofNat (by omega), by rw [show (255 : Int32) = Int32.ofNat 255 from rfl, ofNat_lt (by omega) (by omega)]; omega⟩
theorem own_nat {c : Int32} (h0 : ¬ c < 0) (h1 : ¬ 255 < c) : ∃ i, i < 256 ∧ c = Int32.ofNat i := by
  rw [Int32.lt_iff_toInt_lt] at h0 h1
  have e1 : (0 : Int32).toInt = 0 := by decide
  have e2 : (255 : Int32).toInt = 255 := by decide
  refine ⟨c.toInt.toNat, by omega, ?_⟩
  rw [← Int32.toInt_inj, ofNat_toInt (by omega)]
  omega
def wsI (c : Int32) : Bool := (!(decide (c < 9)) && !(decide (13 < c))) || (!(decide (c < 28)) && !(decide (32 < c)))
theorem own_ws : ∀ q ∈ AL.zipIdx, (decide (q.1 &&& (28672 : Int32) = 16384)) = wsI (Int32.ofNat q.2) := by decide +kernel
theorem own_ws1 {i : Nat} {p : Int32} (h : AL[i]? = some p) : (p &&& (28672 : Int32) = 16384) ↔ wsI (Int32.ofNat i) = true := by
  have h1 : AL.zipIdx[i]? = some (p, i) := by rw [List.getElem?_zipIdx, h]; simp
  rw [← own_ws _ (List.mem_of_getElem? h1), decide_eq_true_iff]
theorem own_noins {a0 : Array Value} {Z : State} (hw : ∀ d ∈ tables_1, d.before a0 Z = true) : ∃ c t, Z.vm.findClass "java/lang/String" = some c ∧ Z.vm.findClass "com/example/faturista/faturista/engine/missedcharges/BilledLine" = some t ∧ Z.vm.assignable c t = false := noIns (wd hw 128 rfl) (wd hw 129 rfl) (wd hw 52 rfl) (by decide) (by decide)
theorem own_ne {Z : State} {h : Heap} {a b : Addr} {C n d : String} {v w : Value} (F : Fld Z h a C n d v) (G : Fld Z h b C n d w) (q : a = b) : v = w := by
  subst q; exact Fld.inj F G
theorem own_fldi {args : Array Value} {s : State} {t : Term} {a : Addr} {C n d : String} {z : Int32} (ht : t.eval args s none [] s = some (.ref a)) (h : (Term.field t C n d).eval args s none [] s = some (.int z)) : s.fieldOf? a C n d = some (.int z) := by
  simpa [Term.eval, ht] using h
theorem pd0 : parseMethodDescriptor "([CI[BII)I" = some ⟨[(.array .char), .int, (.array .byte), .int, .int], (some .int)⟩ := by decide +kernel
theorem pd1 : parseMethodDescriptor "([CII)[B" = some ⟨[(.array .char), .int, .int], (some (.array .byte))⟩ := by decide +kernel
theorem pd2 : parseMethodDescriptor "([BI)B" = some ⟨[(.array .byte), .int], (some .byte)⟩ := by decide +kernel
theorem pd3 : parseMethodDescriptor "([CIILjava/lang/Void;)V" = some ⟨[(.array .char), .int, .int, (.object "java/lang/Void")], none⟩ := by decide +kernel
theorem pd4 : parseMethodDescriptor "()B" = some ⟨[], (some .byte)⟩ := by decide +kernel
theorem pd5 : parseMethodDescriptor "(I)I" = some ⟨[.int], (some .int)⟩ := by decide +kernel
theorem pd6 : parseMethodDescriptor "([BI)C" = some ⟨[(.array .byte), .int], (some .char)⟩ := by decide +kernel
theorem pd7 : parseMethodDescriptor "(I)Z" = some ⟨[.int], (some .boolean)⟩ := by decide +kernel
theorem pd8 : parseMethodDescriptor "([B[B)Z" = some ⟨[(.array .byte), (.array .byte)], (some .boolean)⟩ := by decide +kernel
theorem pd9 : parseMethodDescriptor "()Z" = some ⟨[], (some .boolean)⟩ := by decide +kernel
theorem pd10 : parseMethodDescriptor "([B)I" = some ⟨[(.array .byte)], (some .int)⟩ := by decide +kernel
theorem pd11 : parseMethodDescriptor "()I" = some ⟨[], (some .int)⟩ := by decide +kernel
theorem pd12 : parseMethodDescriptor "(Ljava/lang/Object;Ljava/lang/String;)Ljava/lang/Object;" = some ⟨[(.object "java/lang/Object"), (.object "java/lang/String")], (some (.object "java/lang/Object"))⟩ := by decide +kernel
theorem pd13 : parseMethodDescriptor "(Ljava/lang/String;Ljava/lang/String;)Ljava/lang/String;" = some ⟨[(.object "java/lang/String"), (.object "java/lang/String")], (some (.object "java/lang/String"))⟩ := by decide +kernel
theorem pd14 : parseMethodDescriptor "(Ljava/lang/Object;)Z" = some ⟨[(.object "java/lang/Object")], (some .boolean)⟩ := by decide +kernel
theorem pd15 : parseMethodDescriptor "([C)V" = some ⟨[(.array .char)], none⟩ := by decide +kernel
theorem pd16 : parseMethodDescriptor "(I)Lcom/example/faturista/faturista/engine/missedcharges/ChargeCategory;" = some ⟨[.int], (some (.object "com/example/faturista/faturista/engine/missedcharges/ChargeCategory"))⟩ := by decide +kernel
theorem pd17 : parseMethodDescriptor "(I)Ljava/lang/String;" = some ⟨[.int], (some (.object "java/lang/String"))⟩ := by decide +kernel
theorem pd18 : parseMethodDescriptor "(Lcom/example/faturista/faturista/engine/missedcharges/ChargeCategory;Ljava/lang/String;)V" = some ⟨[(.object "com/example/faturista/faturista/engine/missedcharges/ChargeCategory"), (.object "java/lang/String")], none⟩ := by decide +kernel
def D_cmp5 : List (Nat × Instr × Nat) := [(0, .iconst 0, 1), (1, .istore 5, 2), (3, .iload 5, 2), (5, .iload 4, 2), (7, .if_icmp .ge 37, 3), (10, .aload_n 0, 1), (11, .iload_n 1, 1), (12, .caload, 1), (13, .istore 6, 2), (15, .iload 6, 2), (17, .sipush 255, 3), (20, .if_icmp .le 6, 3), (23, .iload 5, 2), (25, .ireturn, 1), (26, .aload_n 2, 1), (27, .iload_n 3, 1), (28, .iload 6, 2), (30, .i2b, 1), (31, .bastore, 1), (32, .iinc 1 1, 3), (35, .iinc 3 1, 3), (38, .iinc 5 1, 3), (41, .goto (-38), 3), (44, .iload 4, 2), (46, .ireturn, 1)]
theorem hD_cmp5 : ∀ q ∈ D_cmp5, decode jdk_52_method_21_code q.1 = .ok q.2 := by decide +kernel
set_option maxRecDepth 65536 in
set_option maxHeartbeats 4000000 in
theorem c_cmp5 (l : Launch) (Z : State) (a0 : Array Value) (hw : ∀ d ∈ tables_1, d.before a0 Z = true) (hEL : EW Z a0 []) (hJS : JS Z) (hJA : JA Z) (c0 c1 c2 c3 : Addr) (hCT : CT Z c0 c1 c2 c3) {A d : Addr} {cs : List Int32} {h : Heap} (FA : Ary Z h A .char cs) (FD : Ary Z h d .byte (List.replicate cs.length 0)) (hd0 : Z.heap.size ≤ d) : Ctr l Z [] (⟨"java/lang/StringUTF16", "compress", "([CI[BII)I"⟩ : MethodName) jdk_52_method_21_code 7 (some .int) [] ({ frames := 0, cells := 0, slots := 0, locals := 0 } : Room) [d] #[(.ref A), (.int (0 : Int32)), (.ref d), (.int (0 : Int32)), (.int (Int32.ofNat cs.length))] h (fun v h' S => ∃ r, r ≤ cs.length ∧ v = some (.int (Int32.ofNat r)) ∧ Keep h h' [d] ∧ (∀ i c, i < r → cs[i]? = some c → ¬ 255 < c) ∧ (r < cs.length → ∃ c, cs[r]? = some c ∧ 255 < c) ∧ (r = cs.length → Ary Z h' d .byte (cs.map lo8))) := by
  refine enter (a0 := a0) (by first | (simp [plainName, overriddenIn]; done) | decide +kernel) hEL (Ls := #[.val (.ref A), .val (.int (0 : Int32)), .val (.ref d), .val (.int (0 : Int32)), .val (.int (Int32.ofNat cs.length)), .unset, .unset]) (fun m => by first | (simp [entryFrame, mkF, argsToLocals, Value.category]; done) | rfl) ?_
  intro κ vm T hby hs w Sf
  have dc := Dec.of hby hD_cmp5
  show Go κ (GQ κ Z [] ({ frames := 0, cells := 0, slots := 0, locals := 0 } : Room) (fun v h' S => ∃ r, r ≤ cs.length ∧ v = some (.int (Int32.ofNat r)) ∧ Keep h h' [d] ∧ (∀ i c, i < r → cs[i]? = some c → ¬ 255 < c) ∧ (r < cs.length → ∃ c, cs[r]? = some c ∧ 255 < c) ∧ (r = cs.length → Ary Z h' d .byte (cs.map lo8)))) T 0 #[.val (.ref A), .val (.int (0 : Int32)), .val (.ref d), .val (.int (0 : Int32)), .val (.int (Int32.ofNat cs.length)), .unset, .unset] []
  have hNA := FA.small
  have hne : A ≠ d := FA.ne_ty FD (by decide)
  have key : ∀ (f i : Nat), i + f = cs.length → (∀ j c, j < i → cs[j]? = some c → ¬ 255 < c) → ∀ (T1 : State) (h1 : Heap) (s6 : Slot), W κ l ({ frames := 0, cells := 0, slots := 0, locals := 0 } : Room) Z [] "java/lang/StringUTF16" "compress" 7 (some .int) vm T1 h1 0 0 → Ary Z h1 A .char cs → Ary Z h1 d .byte ((cs.take i).map lo8 ++ List.replicate f 0) → Keep h h1 [d] → Safe Z [] vm h1 d → One s6 → Go κ (GQ κ Z [] ({ frames := 0, cells := 0, slots := 0, locals := 0 } : Room) (fun v h' S => ∃ r, r ≤ cs.length ∧ v = some (.int (Int32.ofNat r)) ∧ Keep h h' [d] ∧ (∀ i c, i < r → cs[i]? = some c → ¬ 255 < c) ∧ (r < cs.length → ∃ c, cs[r]? = some c ∧ 255 < c) ∧ (r = cs.length → Ary Z h' d .byte (cs.map lo8)))) T1 3 #[.val (.ref A), .val (.int (Int32.ofNat i)), .val (.ref d), .val (.int (Int32.ofNat i)), .val (.int (Int32.ofNat cs.length)), .val (.int (Int32.ofNat i)), s6] [] := by
    intro f
    induction f with
    | zero =>
      intro i hi hlt T1 h1 s6 w1 GA GD K S hs6
      obtain rfl : i = cs.length := by omega
      show Go κ _ T1 3 #[.val (.ref A), .val (.int (Int32.ofNat cs.length)), .val (.ref d), .val (.int (Int32.ofNat cs.length)), .val (.int (Int32.ofNat cs.length)), .val (.int (Int32.ofNat cs.length)), s6] []
      refine blk (pc' := 7) (Ls' := #[.val (.ref A), .val (.int (Int32.ofNat cs.length)), .val (.ref d), .val (.int (Int32.ofNat cs.length)), .val (.int (Int32.ofNat cs.length)), .val (.int (Int32.ofNat cs.length)), s6]) (st' := [(.int (Int32.ofNat cs.length)), (.int (Int32.ofNat cs.length))]) [oIload w1.ok (dc.g 2 rfl), oIload w1.ok (dc.g 3 rfl)] rfl ?_
      refine cGe (pc' := 44) w1.ok (dc.g 4 rfl) (by decide) (by decide) (fun hc1 => ?_) (fun hc1 => absurd hc1 (fun q => absurd q (by rw [ofNat_lt hNA hNA]; omega)))
      show Go κ _ T1 44 #[.val (.ref A), .val (.int (Int32.ofNat cs.length)), .val (.ref d), .val (.int (Int32.ofNat cs.length)), .val (.int (Int32.ofNat cs.length)), .val (.int (Int32.ofNat cs.length)), s6] []
      refine blk (pc' := 46) (Ls' := #[.val (.ref A), .val (.int (Int32.ofNat cs.length)), .val (.ref d), .val (.int (Int32.ofNat cs.length)), .val (.int (Int32.ofNat cs.length)), .val (.int (Int32.ofNat cs.length)), s6]) (st' := [(.int (Int32.ofNat cs.length))]) [oIload w1.ok (dc.g 23 rfl)] rfl ?_
      exact w1.retI (t := .int) rfl (Or.inl rfl) rfl (dc.g 24 rfl) (by decide) (by decide) (fun S hS => ⟨cs.length, Nat.le_refl _, rfl, K, hlt, fun q => absurd q (Nat.lt_irrefl _), fun _ => by simpa using GD⟩)
    | succ f ih =>
      intro i hi hlt T1 h1 s6 w1 GA GD K S hs6
      obtain ⟨c, hc⟩ : ∃ c, cs[i]? = some c := ⟨_, List.getElem?_eq_getElem (by omega)⟩
      show Go κ _ T1 3 #[.val (.ref A), .val (.int (Int32.ofNat i)), .val (.ref d), .val (.int (Int32.ofNat i)), .val (.int (Int32.ofNat cs.length)), .val (.int (Int32.ofNat i)), s6] []
      refine blk (pc' := 7) (Ls' := #[.val (.ref A), .val (.int (Int32.ofNat i)), .val (.ref d), .val (.int (Int32.ofNat i)), .val (.int (Int32.ofNat cs.length)), .val (.int (Int32.ofNat i)), s6]) (st' := [(.int (Int32.ofNat cs.length)), (.int (Int32.ofNat i))]) [oIload w1.ok (dc.g 2 rfl), oIload w1.ok (dc.g 3 rfl)] rfl ?_
      refine cGe (pc' := 44) w1.ok (dc.g 4 rfl) (by decide) (by decide) (fun hc2 => absurd ((ofNat_lt (by omega) hNA).mpr (by omega)) hc2) (fun hc2 => ?_)
      show Go κ _ T1 10 #[.val (.ref A), .val (.int (Int32.ofNat i)), .val (.ref d), .val (.int (Int32.ofNat i)), .val (.int (Int32.ofNat cs.length)), .val (.int (Int32.ofNat i)), s6] []
      refine blk (pc' := 12) (Ls' := #[.val (.ref A), .val (.int (Int32.ofNat i)), .val (.ref d), .val (.int (Int32.ofNat i)), .val (.int (Int32.ofNat cs.length)), .val (.int (Int32.ofNat i)), s6]) (st' := [(.int (Int32.ofNat i)), (.ref A)]) [oAloadN w1.ok (dc.g 5 rfl), oIloadN w1.ok (dc.g 6 rfl)] rfl ?_
      refine w1.cld GA (i := i) rfl hc (dc.g 7 rfl) ?_
      show Go κ _ T1 13 #[.val (.ref A), .val (.int (Int32.ofNat i)), .val (.ref d), .val (.int (Int32.ofNat i)), .val (.int (Int32.ofNat cs.length)), .val (.int (Int32.ofNat i)), s6] [(.int c)]
      refine istoreG w1.ok (dc.g 8 rfl) rfl hs6 ?_
      show Go κ _ T1 15 #[.val (.ref A), .val (.int (Int32.ofNat i)), .val (.ref d), .val (.int (Int32.ofNat i)), .val (.int (Int32.ofNat cs.length)), .val (.int (Int32.ofNat i)), .val (.int c)] []
      refine blk (pc' := 20) (Ls' := #[.val (.ref A), .val (.int (Int32.ofNat i)), .val (.ref d), .val (.int (Int32.ofNat i)), .val (.int (Int32.ofNat cs.length)), .val (.int (Int32.ofNat i)), .val (.int c)]) (st' := [(.int (255 : Int32)), (.int c)]) [oIload w1.ok (dc.g 9 rfl), oSipush w1.ok (dc.g 10 rfl)] rfl ?_
      refine cLe (pc' := 26) w1.ok (dc.g 11 rfl) (by decide) (by decide) (fun hc3 => ?_) (fun hc3 => ?_)
      · show Go κ _ T1 26 #[.val (.ref A), .val (.int (Int32.ofNat i)), .val (.ref d), .val (.int (Int32.ofNat i)), .val (.int (Int32.ofNat cs.length)), .val (.int (Int32.ofNat i)), .val (.int c)] []
        refine blk (pc' := 31) (Ls' := #[.val (.ref A), .val (.int (Int32.ofNat i)), .val (.ref d), .val (.int (Int32.ofNat i)), .val (.int (Int32.ofNat cs.length)), .val (.int (Int32.ofNat i)), .val (.int c)]) (st' := [(.int ((c).toInt8.toInt32)), (.int (Int32.ofNat i)), (.ref d)]) [oAloadN w1.ok (dc.g 14 rfl), oIloadN w1.ok (dc.g 15 rfl), oIload w1.ok (dc.g 16 rfl), oI2b w1.ok (dc.g 17 rfl)] rfl ?_
        refine w1.bst GD (i := i) rfl (by simp; omega) (nar_i2b _) (fits_i2b _) S hd0 (dc.g 18 rfl) ?_
        intro T4 h6 w5 W7 F8 S9
        show Go κ _ T4 32 #[.val (.ref A), .val (.int (Int32.ofNat i)), .val (.ref d), .val (.int (Int32.ofNat i)), .val (.int (Int32.ofNat cs.length)), .val (.int (Int32.ofNat i)), .val (.int c)] []
        obtain ⟨slW7, vvW7, WW7⟩ := W7
        refine blk (pc' := 3) (Ls' := #[.val (.ref A), .val (.int ((Int32.ofNat i) + (1 : Int32))), .val (.ref d), .val (.int ((Int32.ofNat i) + (1 : Int32))), .val (.int (Int32.ofNat cs.length)), .val (.int ((Int32.ofNat i) + (1 : Int32))), .val (.int c)]) (st' := []) [oIinc w5.ok (dc.g 19 rfl), oIinc w5.ok (dc.g 20 rfl), oIinc w5.ok (dc.g 21 rfl), oGoto w5.ok 3 (dc.g 22 rfl)] rfl ?_
        rw [ofNat_succ]
        refine ih (i + 1) (by omega) (fun j c' hj hc' => ?_) _ _ _ w5 (GA.other WW7 hne) ?_ (K.wr WW7 (Or.inl (List.mem_of_getElem? (i := 0) rfl))) S9 (One.val rfl)
        · rcases Nat.lt_succ_iff_lt_or_eq.mp hj with q | q
          · exact hlt j c' q hc'
          · subst q; rw [hc] at hc'; cases hc'; exact hc3
        · have e : (cs.take i).length = i := by rw [List.length_take]; omega
          have := set_map (pre := cs.take i) (k := f) (a := c.toInt8.toInt32) lo8
          rw [e] at this
          rw [this] at F8
          rw [take_succ hc, List.map_append, List.append_assoc]; exact F8
      · show Go κ _ T1 23 #[.val (.ref A), .val (.int (Int32.ofNat i)), .val (.ref d), .val (.int (Int32.ofNat i)), .val (.int (Int32.ofNat cs.length)), .val (.int (Int32.ofNat i)), .val (.int c)] []
        refine blk (pc' := 25) (Ls' := #[.val (.ref A), .val (.int (Int32.ofNat i)), .val (.ref d), .val (.int (Int32.ofNat i)), .val (.int (Int32.ofNat cs.length)), .val (.int (Int32.ofNat i)), .val (.int c)]) (st' := [(.int (Int32.ofNat i))]) [oIload w1.ok (dc.g 12 rfl)] rfl ?_
        exact w1.retI (t := .int) rfl (Or.inl rfl) rfl (dc.g 13 rfl) (by decide) (by decide) (fun S hS => ⟨i, by omega, rfl, K, hlt, fun _ => ⟨c, hc, hc3⟩, fun q => by omega⟩)
  refine blk (pc' := 3) (Ls' := #[.val (.ref A), .val (.int (0 : Int32)), .val (.ref d), .val (.int (0 : Int32)), .val (.int (Int32.ofNat cs.length)), .val (.int (0 : Int32)), .unset]) (st' := []) [oIconst w.ok (dc.g 0 rfl), oIstore w.ok (dc.g 1 rfl)] rfl ?_
  exact key cs.length 0 (by omega) (fun j c q => by omega) T h .unset w FA (by simpa using FD) (Keep.refl _ _) (Sf d (List.mem_singleton.mpr rfl)) One.u
def D_cmp3 : List (Nat × Instr × Nat) := [(0, .iload_n 2, 1), (1, .newarray .byte, 2), (3, .astore_n 3, 1), (4, .aload_n 0, 1), (5, .iload_n 1, 1), (6, .aload_n 3, 1), (7, .iconst 0, 1), (8, .iload_n 2, 1), (9, .invokestatic 115, 3), (12, .istore 4, 2), (14, .iload 4, 2), (16, .iload_n 2, 1), (17, .if_icmp .eq 40, 3), (20, .aload_n 0, 1), (21, .iload_n 1, 1), (22, .iload_n 2, 1), (23, .invokestatic 119, 3), (26, .astore 5, 2), (28, .aload 5, 2), (30, .iload 4, 2), (32, .invokestatic 71, 3), (35, .sipush 255, 3), (38, .if_icmp .gt 16, 3), (41, .aload 5, 2), (43, .iconst 0, 1), (44, .aload_n 3, 1), (45, .iconst 0, 1), (46, .iload_n 2, 1), (47, .invokestatic 123, 3), (50, .iload_n 2, 1), (51, .if_icmp .eq 6, 3), (54, .aload 5, 2), (56, .areturn, 1), (57, .aload_n 3, 1), (58, .areturn, 1)]
theorem hD_cmp3 : ∀ q ∈ D_cmp3, decode jdk_52_method_16_code q.1 = .ok q.2 := by decide +kernel
set_option maxRecDepth 65536 in
set_option maxHeartbeats 4000000 in
theorem c_cmp3 (l : Launch) (Z : State) (a0 : Array Value) (hw : ∀ d ∈ tables_1, d.before a0 Z = true) (hEL : EW Z a0 []) (hJS : JS Z) (hJA : JA Z) (c0 c1 c2 c3 : Addr) (hCT : CT Z c0 c1 c2 c3) {A : Addr} {cs : List Int32} {h : Heap} (oz : Ext Z.heap h) (FA : Ary Z h A .char cs) (hn : cs.length ≤ 2) (hL : IsL cs) : Ctr l Z [] (⟨"java/lang/StringUTF16", "compress", "([CII)[B"⟩ : MethodName) jdk_52_method_16_code 6 (some (.array .byte)) [] ({ frames := 1, cells := 1, slots := 2, locals := 18 } : Room) [] #[(.ref A), (.int (0 : Int32)), (.int (Int32.ofNat cs.length))] h (fun v h' S => Keep h h' [] ∧ ∃ x, v = some (.ref x) ∧ ((IsL cs ∧ Ary Z h' x .byte (cs.map lo8)) ∨ (¬ IsL cs ∧ Ary Z h' x .byte (u16 cs)))) := by
  refine enter (a0 := a0) (by first | (simp [plainName, overriddenIn]; done) | decide +kernel) hEL (Ls := #[.val (.ref A), .val (.int (0 : Int32)), .val (.int (Int32.ofNat cs.length)), .unset, .unset, .unset]) (fun m => by first | (simp [entryFrame, mkF, argsToLocals, Value.category]; done) | rfl) ?_
  intro κ vm T hby hs w Sf
  have dc := Dec.of hby hD_cmp3
  show Go κ (GQ κ Z [] ({ frames := 1, cells := 1, slots := 2, locals := 18 } : Room) (fun v h' S => Keep h h' [] ∧ ∃ x, v = some (.ref x) ∧ ((IsL cs ∧ Ary Z h' x .byte (cs.map lo8)) ∨ (¬ IsL cs ∧ Ary Z h' x .byte (u16 cs))))) T 0 #[.val (.ref A), .val (.int (0 : Int32)), .val (.int (Int32.ofNat cs.length)), .unset, .unset, .unset] []
  have ozs : Ext Z.heap κ.s.heap := by rw [hs]; exact oz
  have hIC := FA.isC
  refine blk (pc' := 1) (Ls' := #[.val (.ref A), .val (.int (0 : Int32)), .val (.int (Int32.ofNat cs.length)), .unset, .unset, .unset]) (st' := [(.int (Int32.ofNat cs.length))]) [oIloadN w.ok (dc.g 0 rfl)] rfl ?_
  refine w.newarr (aty := .byte) (wd hw 40 rfl) (dc.g 1 rfl) (c := cs.length) (nneg_ofNat (by omega)) (clamp_ofNat (by omega)) (cap := 2) (by first | decide | omega) (by first | decide | omega) (by decide) (by decide) rfl rfl ?_
  intro T10 h12 x13 w11 g14 E15 F16 S17
  show Go κ _ T10 3 #[.val (.ref A), .val (.int (0 : Int32)), .val (.int (Int32.ofNat cs.length)), .unset, .unset, .unset] [(.ref x13)]
  refine blk (pc' := 9) (Ls' := #[.val (.ref A), .val (.int (0 : Int32)), .val (.int (Int32.ofNat cs.length)), .val (.ref x13), .unset, .unset]) (st' := [(.int (Int32.ofNat cs.length)), (.int (0 : Int32)), (.ref x13), (.int (0 : Int32)), (.ref A)]) [oAstoreN w11.ok (dc.g 2 rfl), oAloadN w11.ok (dc.g 3 rfl), oIloadN w11.ok (dc.g 4 rfl), oAloadN w11.ok (dc.g 5 rfl), oIconst w11.ok (dc.g 6 rfl), oIloadN w11.ok (dc.g 7 rfl)] rfl ?_
  refine w11.callS (wd hw 41 rfl) (wd hw 42 rfl) (wd hw 38 rfl) (wd hw 43 rfl) (by decide) (argsL := [(.ref A), (.int (0 : Int32)), (.ref x13), (.int (0 : Int32)), (.int (Int32.ofNat cs.length))]) (Wd := 0) (Ctr.pays (len := 3) (Wd := 0) (c_cmp5 l Z a0 hw hEL hJS hJA c0 c1 c2 c3 hCT (FA.ext E15) F16 (by rw [g14]; exact oz.1)) w11 (wd hw 43 rfl) (wd hw 38 rfl) hEL (by decide) (by decide) (sfOne F16.lt S17)) pd0 rfl (st := []) rfl rfl (Nat.le_of_eq rfl) (dc.g 8 rfl) (by decide) (by decide) ?_
  intro vm18 T19 h20 v21 w22 C23 Q24
  obtain ⟨r, hr, rfl, K2, hlt, hge, hall⟩ := Q24
  show Go κ _ T19 12 #[.val (.ref A), .val (.int (0 : Int32)), .val (.int (Int32.ofNat cs.length)), .val (.ref x13), .unset, .unset] [(.int (Int32.ofNat r))]
  refine blk (pc' := 17) (Ls' := #[.val (.ref A), .val (.int (0 : Int32)), .val (.int (Int32.ofNat cs.length)), .val (.ref x13), .val (.int (Int32.ofNat r)), .unset]) (st' := [(.int (Int32.ofNat cs.length)), (.int (Int32.ofNat r))]) [oIstore w22.ok (dc.g 9 rfl), oIload w22.ok (dc.g 10 rfl), oIloadN w22.ok (dc.g 11 rfl)] rfl ?_
  have K0 : Keep h h20 [] := ((Keep.refl h []).ext E15).trans K2 (allS (Or.inr (by rw [g14]; exact Nat.le_refl _)) all0)
  refine cEq (pc' := 57) w22.ok (dc.g 12 rfl) (by decide) (by decide) (fun hc25 => ?_) (fun hc25 => ?_)
  · show Go κ _ T19 57 #[.val (.ref A), .val (.int (0 : Int32)), .val (.int (Int32.ofNat cs.length)), .val (.ref x13), .val (.int (Int32.ofNat r)), .unset] []
    have er : r = cs.length := (ofNat_inj (by omega) (by omega)).mp hc25
    refine blk (pc' := 58) (Ls' := #[.val (.ref A), .val (.int (0 : Int32)), .val (.int (Int32.ofNat cs.length)), .val (.ref x13), .val (.int (Int32.ofNat r)), .unset]) (st' := [(.ref x13)]) [oAloadN w22.ok (dc.g 33 rfl)] rfl ?_
    exact w22.retA rfl rfl rfl rfl (dc.g 34 rfl) (by decide) (by decide) (fun S hS => ⟨K0, _, rfl, Or.inl ⟨isL_of hIC (by rw [← er]; exact hlt), hall er⟩⟩)
  · show Go κ _ T19 20 #[.val (.ref A), .val (.int (0 : Int32)), .val (.int (Int32.ofNat cs.length)), .val (.ref x13), .val (.int (Int32.ofNat r)), .unset] []
    have er : r < cs.length := (Nat.lt_or_eq_of_le hr).elim id (fun q => absurd (by rw [q]) hc25)
    obtain ⟨c, hc1, hc2⟩ := hge er
    exact absurd hL (not_isL hc1 hc2)
def D_codl : List (Nat × Instr × Nat) := [(0, .iload_n 1, 1), (1, .aload_n 0, 1), (2, .arraylength, 1), (3, .isub, 1), (4, .bipush 31, 2), (6, .iushr, 1), (7, .i2b, 1), (8, .ireturn, 1)]
theorem hD_codl : ∀ q ∈ D_codl, decode jdk_52_method_15_code q.1 = .ok q.2 := by decide +kernel
set_option maxRecDepth 65536 in
set_option maxHeartbeats 4000000 in
theorem c_codl (l : Launch) (Z : State) (a0 : Array Value) (hw : ∀ d ∈ tables_1, d.before a0 Z = true) (hEL : EW Z a0 []) (hJS : JS Z) (hJA : JA Z) (c0 c1 c2 c3 : Addr) (hCT : CT Z c0 c1 c2 c3) {y : Addr} {vs : List Int32} {n : Nat} {r : Int32} {h : Heap} (F : Ary Z h y .byte vs) (hm : (vs.length = n ∧ r = 0) ∨ (vs.length = 2 * n ∧ 0 < n ∧ r = 1)) : Ctr l Z [] (⟨"java/lang/StringUTF16", "coderFromArrayLen", "([BI)B"⟩ : MethodName) jdk_52_method_15_code 2 (some .byte) [] ({ frames := 0, cells := 0, slots := 0, locals := 0 } : Room) [] #[(.ref y), (.int (Int32.ofNat n))] h (fun v h' S => h = h' ∧ v = some (.int r)) := by
  refine enter (a0 := a0) (by first | (simp [plainName, overriddenIn]; done) | decide +kernel) hEL (Ls := #[.val (.ref y), .val (.int (Int32.ofNat n))]) (fun m => by first | (simp [entryFrame, mkF, argsToLocals, Value.category]; done) | rfl) ?_
  intro κ vm T hby hs w Sf
  have dc := Dec.of hby hD_codl
  show Go κ (GQ κ Z [] ({ frames := 0, cells := 0, slots := 0, locals := 0 } : Room) (fun v h' S => h = h' ∧ v = some (.int r))) T 0 #[.val (.ref y), .val (.int (Int32.ofNat n))] []
  have hN := F.small
  refine blk (pc' := 2) (Ls' := #[.val (.ref y), .val (.int (Int32.ofNat n))]) (st' := [(.ref y), (.int (Int32.ofNat n))]) [oIloadN w.ok (dc.g 0 rfl), oAloadN w.ok (dc.g 1 rfl)] rfl ?_
  refine w.len F (dc.g 2 rfl) ?_
  show Go κ _ T 3 #[.val (.ref y), .val (.int (Int32.ofNat n))] [(.int (Int32.ofNat vs.length)), (.int (Int32.ofNat n))]
  refine blk (pc' := 8) (Ls' := #[.val (.ref y), .val (.int (Int32.ofNat n))]) (st' := [(.int ((((((Int32.ofNat n) - (Int32.ofNat vs.length))).toUInt32 >>> ((31 : Int32) &&& 31).toUInt32).toInt32).toInt8.toInt32))]) [oIsub w.ok (dc.g 3 rfl), oBipush w.ok (dc.g 4 rfl), oIushr w.ok (dc.g 5 rfl), oI2b w.ok (dc.g 6 rfl)] rfl ?_
  have e : ((((((Int32.ofNat n) - (Int32.ofNat vs.length))).toUInt32 >>> ((31 : Int32) &&& 31).toUInt32).toInt32).toInt8.toInt32) = r := by
    rcases hm with ⟨q, rfl⟩ | ⟨q, q0, rfl⟩
    · rw [q]; exact cod0
    · rw [q] at hN ⊢; exact cod1 q0 hN
  rw [e]
  show Go κ _ T 8 #[.val (.ref y), .val (.int (Int32.ofNat n))] [(.int r)]
  exact w.retI (t := .byte) rfl (Or.inr (Or.inr (Or.inl rfl))) (by rcases hm with ⟨q, rfl⟩ | ⟨q, q0, rfl⟩ <;> rfl) (dc.g 7 rfl) (by decide) (by decide) (fun S hS => ⟨rfl, rfl⟩)
def D_si4 : List (Nat × Instr × Nat) := [(0, .aload_n 0, 1), (1, .invokespecial 1, 3), (4, .iload_n 3, 1), (5, .ifCond .ne 22, 3), (8, .aload_n 0, 1), (9, .ldc 7, 2), (11, .getfield 9, 3), (14, .putfield 9, 3), (17, .aload_n 0, 1), (18, .ldc 7, 2), (20, .getfield 15, 3), (23, .putfield 15, 3), (26, .return_, 1), (27, .getstatic 38, 3), (30, .ifCond .eq 28, 3), (33, .aload_n 1, 1), (34, .iload_n 2, 1), (35, .iload_n 3, 1), (36, .invokestatic 177, 3), (39, .astore 5, 2), (41, .aload_n 0, 1), (42, .aload 5, 2), (44, .iload_n 3, 1), (45, .invokestatic 47, 3), (48, .putfield 15, 3), (51, .aload_n 0, 1), (52, .aload 5, 2), (54, .putfield 9, 3), (57, .return_, 1), (58, .aload_n 0, 1), (59, .iconst 1, 1), (60, .putfield 15, 3), (63, .aload_n 0, 1), (64, .aload_n 1, 1), (65, .iload_n 2, 1), (66, .iload_n 3, 1), (67, .invokestatic 180, 3), (70, .putfield 9, 3), (73, .return_, 1)]
theorem hD_si4 : ∀ q ∈ D_si4, decode jdk_42_method_149_code q.1 = .ok q.2 := by decide +kernel
set_option maxRecDepth 65536 in
set_option maxHeartbeats 4000000 in
theorem c_si4 (l : Launch) (Z : State) (a0 : Array Value) (hw : ∀ d ∈ tables_1, d.before a0 Z = true) (hEL : EW Z a0 []) (hJS : JS Z) (hJA : JA Z) (c0 c1 c2 c3 : Addr) (hCT : CT Z c0 c1 c2 c3) {x A : Addr} {cs : List Int32} {h : Heap} (oz : Ext Z.heap h) (X : Exa Z h x "java/lang/String") (FV : Fld Z h x "java/lang/String" "value" "[B" .null) (FC : Fld Z h x "java/lang/String" "coder" "B" (.int 0)) (hx0 : Z.heap.size ≤ x) (FA : Ary Z h A .char cs) (hn : cs.length ≤ 2) (hL : IsL cs) (hpos : 0 < cs.length) : Ctr l Z [] (⟨"java/lang/String", "<init>", "([CIILjava/lang/Void;)V"⟩ : MethodName) jdk_42_method_149_code 6 none [] ({ frames := 2, cells := 1, slots := 2, locals := 36 } : Room) [x] #[(.ref x), (.ref A), (.int (0 : Int32)), (.int (Int32.ofNat cs.length)), .null] h (fun v h' S => v = none ∧ Keep h h' [x] ∧ Str Z h' x cs) := by
  refine enter (a0 := a0) (by first | (simp [plainName, overriddenIn]; done) | decide +kernel) hEL (Ls := #[.val (.ref x), .val (.ref A), .val (.int (0 : Int32)), .val (.int (Int32.ofNat cs.length)), .val .null, .unset]) (fun m => by first | (simp [entryFrame, mkF, argsToLocals, Value.category]; done) | rfl) ?_
  intro κ vm T hby hs w Sf
  have dc := Dec.of hby hD_si4
  show Go κ (GQ κ Z [] ({ frames := 2, cells := 1, slots := 2, locals := 36 } : Room) (fun v h' S => v = none ∧ Keep h h' [x] ∧ Str Z h' x cs)) T 0 #[.val (.ref x), .val (.ref A), .val (.int (0 : Int32)), .val (.int (Int32.ofNat cs.length)), .val .null, .unset] []
  have ozs : Ext Z.heap κ.s.heap := by rw [hs]; exact oz
  have S0 := Sf x (List.mem_singleton.mpr rfl)
  have hIC := FA.isC
  refine blk (pc' := 1) (Ls' := #[.val (.ref x), .val (.ref A), .val (.int (0 : Int32)), .val (.int (Int32.ofNat cs.length)), .val .null, .unset]) (st' := [(.ref x)]) [oAloadN w.ok (dc.g 0 rfl)] rfl ?_
  refine w.initO (wd hw 32 rfl) (wd hw 33 rfl) (wd hw 34 rfl) rfl (dc.g 1 rfl) (by decide) (Wd := 0) (Nat.le_of_eq rfl) (by decide) ?_
  intro T26 w27
  show Go κ _ T26 4 #[.val (.ref x), .val (.ref A), .val (.int (0 : Int32)), .val (.int (Int32.ofNat cs.length)), .val .null, .unset] []
  refine blk (pc' := 5) (Ls' := #[.val (.ref x), .val (.ref A), .val (.int (0 : Int32)), .val (.int (Int32.ofNat cs.length)), .val .null, .unset]) (st' := [(.int (Int32.ofNat cs.length))]) [oIloadN w27.ok (dc.g 2 rfl)] rfl ?_
  refine zNe (pc' := 27) w27.ok (dc.g 3 rfl) (by decide) (by decide) (fun hc28 => ?_) (fun hc28 => ?_)
  · show Go κ _ T26 27 #[.val (.ref x), .val (.ref A), .val (.int (0 : Int32)), .val (.int (Int32.ofNat cs.length)), .val .null, .unset] []
    have hpos : 0 < cs.length := Nat.pos_of_ne_zero fun q => hc28 (by rw [q]; rfl)
    obtain ⟨⟨zc, hcs, hcz⟩, -⟩ := id hJS
    refine w27.gets (wd hw 35 rfl) (hcs.ext (w27.old ozs)) (dc.g 13 rfl) ?_
    intro T29 w30
    show Go κ _ T29 30 #[.val (.ref x), .val (.ref A), .val (.int (0 : Int32)), .val (.int (Int32.ofNat cs.length)), .val .null, .unset] [(.int zc)]
    refine zEq (pc' := 58) w30.ok (dc.g 14 rfl) (by decide) (by decide) (fun hc31 => absurd hc31 hcz) (fun hc31 => ?_)
    show Go κ _ T29 33 #[.val (.ref x), .val (.ref A), .val (.int (0 : Int32)), .val (.int (Int32.ofNat cs.length)), .val .null, .unset] []
    refine blk (pc' := 36) (Ls' := #[.val (.ref x), .val (.ref A), .val (.int (0 : Int32)), .val (.int (Int32.ofNat cs.length)), .val .null, .unset]) (st' := [(.int (Int32.ofNat cs.length)), (.int (0 : Int32)), (.ref A)]) [oAloadN w30.ok (dc.g 15 rfl), oIloadN w30.ok (dc.g 16 rfl), oIloadN w30.ok (dc.g 17 rfl)] rfl ?_
    refine w30.callS (wd hw 36 rfl) (wd hw 37 rfl) (wd hw 38 rfl) (wd hw 39 rfl) (by decide) (argsL := [(.ref A), (.int (0 : Int32)), (.int (Int32.ofNat cs.length))]) (Wd := 0) (Ctr.pays (len := 3) (Wd := 0) (c_cmp3 l Z a0 hw hEL hJS hJA c0 c1 c2 c3 hCT (w30.old ozs) FA hn hL) w30 (wd hw 39 rfl) (wd hw 38 rfl) hEL (by decide) (by decide) sfNil) pd1 rfl (st := []) rfl rfl (Nat.le_of_eq rfl) (dc.g 18 rfl) (by decide) (by decide) ?_
    intro vm32 T33 h34 v35 w36 C37 Q38
    obtain ⟨K2, y, rfl, hy⟩ := Q38
    show Go κ _ T33 39 #[.val (.ref x), .val (.ref A), .val (.int (0 : Int32)), .val (.int (Int32.ofNat cs.length)), .val .null, .unset] [(.ref y)]
    refine blk (pc' := 45) (Ls' := #[.val (.ref x), .val (.ref A), .val (.int (0 : Int32)), .val (.int (Int32.ofNat cs.length)), .val .null, .val (.ref y)]) (st' := [(.int (Int32.ofNat cs.length)), (.ref y), (.ref x)]) [oAstore w36.ok (dc.g 19 rfl), oAloadN w36.ok (dc.g 20 rfl), oAload w36.ok (dc.g 21 rfl), oIloadN w36.ok (dc.g 22 rfl)] rfl ?_
    obtain ⟨vs, r, FY, hm, hst⟩ : ∃ (vs : List Int32) (r : Int32), Ary Z h34 y .byte vs ∧ ((vs.length = cs.length ∧ r = 0) ∨ (vs.length = 2 * cs.length ∧ 0 < cs.length ∧ r = 1)) ∧ ((IsL cs ∧ r = 0 ∧ vs = cs.map lo8) ∨ (¬ IsL cs ∧ r = 1 ∧ vs = u16 cs)) := by
      rcases hy with ⟨q1, q2⟩ | ⟨q1, q2⟩
      · exact ⟨_, 0, q2, Or.inl ⟨by simp, rfl⟩, Or.inl ⟨q1, rfl, rfl⟩⟩
      · exact ⟨_, 1, q2, Or.inr ⟨u16_len _, hpos, rfl⟩, Or.inr ⟨q1, rfl, rfl⟩⟩
    have hr : narrow .byte (.int r) = .int r ∧ fits .byte (.int r) = true := by rcases hm with ⟨-, rfl⟩ | ⟨-, -, rfl⟩ <;> exact ⟨rfl, rfl⟩
    refine w36.callS (wd hw 44 rfl) (wd hw 45 rfl) (wd hw 38 rfl) (wd hw 46 rfl) (by decide) (argsL := [(.ref y), (.int (Int32.ofNat cs.length))]) (Wd := 1) (Ctr.pays (len := 3) (Wd := 1) (c_codl l Z a0 hw hEL hJS hJA c0 c1 c2 c3 hCT FY hm) w36 (wd hw 46 rfl) (wd hw 38 rfl) hEL (by decide) (by decide) sfNil) pd2 rfl (st := [(.ref x)]) rfl rfl (Nat.le_of_eq rfl) (dc.g 23 rfl) (by decide) (by decide) ?_
    intro vm39 T40 h41 v42 w43 C44 Q45
    obtain ⟨e3, rfl⟩ := Q45
    subst e3
    show Go κ _ T40 48 #[.val (.ref x), .val (.ref A), .val (.int (0 : Int32)), .val (.int (Int32.ofNat cs.length)), .val .null, .val (.ref y)] [(.int r), (.ref x)]
    have S1 := C44.safe (Nat.lt_of_lt_of_le X.lt K2.1) (C37.safe X.lt S0)
    have X1 := X.keep K2
    have FC1 := FC.keep K2 nin0
    have FV1 := FV.keep K2 nin0
    have hyx : y ≠ x := FY.ne_exa X1 (wd hw 22 rfl)
    refine w43.put (wd hw 47 rfl) FC1 X1 (Or.inr ⟨(wd hw 48 rfl), rfl, rfl⟩) (wd hw 22 rfl) (ty := .byte) (by decide) (hr).1 (hr).2 S1 hx0 (dc.g 24 rfl) ?_
    intro T46 h48 w47 W49 S50
    show Go κ _ T46 51 #[.val (.ref x), .val (.ref A), .val (.int (0 : Int32)), .val (.int (Int32.ofNat cs.length)), .val .null, .val (.ref y)] []
    have X2 := X1.wr W49
    have FV2 := FV1.other W49 (Or.inr (slot_ne (Or.inr (wd hw 50 rfl)) (Or.inr (wd hw 48 rfl)) (by decide) (t := .array .byte) (by decide) (t' := .byte) (by decide)))
    have FC2 : Fld Z h48 x "java/lang/String" "coder" "B" (.int r) := FC1.same W49
    have FY2 := FY.other W49 hyx
    refine blk (pc' := 54) (Ls' := #[.val (.ref x), .val (.ref A), .val (.int (0 : Int32)), .val (.int (Int32.ofNat cs.length)), .val .null, .val (.ref y)]) (st' := [(.ref y), (.ref x)]) [oAloadN w47.ok (dc.g 25 rfl), oAload w47.ok (dc.g 26 rfl)] rfl ?_
    refine w47.put (wd hw 49 rfl) FV2 X2 (Or.inr ⟨(wd hw 50 rfl), rfl, rfl⟩) (wd hw 22 rfl) (ty := (.array .byte)) (by decide) rfl rfl S50 hx0 (dc.g 27 rfl) ?_
    intro T51 h53 w52 W54 S55
    show Go κ _ T51 57 #[.val (.ref x), .val (.ref A), .val (.int (0 : Int32)), .val (.int (Int32.ofNat cs.length)), .val .null, .val (.ref y)] []
    have X3 := X2.wr W54
    have FC3 := FC2.other W54 (Or.inr (slot_ne (Or.inr (wd hw 48 rfl)) (Or.inr (wd hw 50 rfl)) (by decide) (t := .byte) (by decide) (t' := .array .byte) (by decide)))
    have FV3 : Fld Z h53 x "java/lang/String" "value" "[B" (.ref y) := FV2.same W54
    have FY3 := FY2.other W54 hyx
    exact w52.retV (dc.g 28 rfl) (by decide) (by decide) (fun S hS => ⟨rfl, ((((Keep.refl h [x]).trans K2 all0).wr W49 (Or.inl (List.mem_of_getElem? (i := 0) rfl))).wr W54 (Or.inl (List.mem_of_getElem? (i := 0) rfl))), y, X3, FV3, hIC, by omega, by rcases hst with ⟨q1, rfl, rfl⟩ | ⟨q1, rfl, rfl⟩ <;> first | exact Or.inl ⟨q1, FC3, FY3⟩ | exact Or.inr ⟨q1, FC3, FY3⟩⟩)
  · show Go κ _ T26 8 #[.val (.ref x), .val (.ref A), .val (.int (0 : Int32)), .val (.int (Int32.ofNat cs.length)), .val .null, .unset] []
    have e0 : cs = [] := by have := hn; cases cs with | nil => rfl | cons c cs => exact absurd hc28 (by rw [show (0 : Int32) = Int32.ofNat 0 from rfl, ofNat_inj (by simp at this ⊢; omega) (by decide)]; simp)
    rw [e0] at hpos; exact absurd hpos (Nat.lt_irrefl _)
def D_si1 : List (Nat × Instr × Nat) := [(0, .aload_n 0, 1), (1, .aload_n 1, 1), (2, .iconst 0, 1), (3, .aload_n 1, 1), (4, .arraylength, 1), (5, .aconst_null, 1), (6, .invokespecial 27, 3), (9, .return_, 1)]
theorem hD_si1 : ∀ q ∈ D_si1, decode jdk_42_method_3_code q.1 = .ok q.2 := by decide +kernel
set_option maxRecDepth 65536 in
set_option maxHeartbeats 4000000 in
theorem c_si1 (l : Launch) (Z : State) (a0 : Array Value) (hw : ∀ d ∈ tables_1, d.before a0 Z = true) (hEL : EW Z a0 []) (hJS : JS Z) (hJA : JA Z) (c0 c1 c2 c3 : Addr) (hCT : CT Z c0 c1 c2 c3) {x A : Addr} {cs : List Int32} {h : Heap} (oz : Ext Z.heap h) (X : Exa Z h x "java/lang/String") (FV : Fld Z h x "java/lang/String" "value" "[B" .null) (FC : Fld Z h x "java/lang/String" "coder" "B" (.int 0)) (hx0 : Z.heap.size ≤ x) (FA : Ary Z h A .char cs) (hn : cs.length ≤ 2) (hL : IsL cs) (hpos : 0 < cs.length) : Ctr l Z [] (⟨"java/lang/String", "<init>", "([C)V"⟩ : MethodName) jdk_42_method_3_code 2 none [] ({ frames := 3, cells := 1, slots := 2, locals := 53 } : Room) [x] #[(.ref x), (.ref A)] h (fun v h' S => v = none ∧ Keep h h' [x] ∧ Str Z h' x cs) := by
  refine enter (a0 := a0) (by first | (simp [plainName, overriddenIn]; done) | decide +kernel) hEL (Ls := #[.val (.ref x), .val (.ref A)]) (fun m => by first | (simp [entryFrame, mkF, argsToLocals, Value.category]; done) | rfl) ?_
  intro κ vm T hby hs w Sf
  have dc := Dec.of hby hD_si1
  show Go κ (GQ κ Z [] ({ frames := 3, cells := 1, slots := 2, locals := 53 } : Room) (fun v h' S => v = none ∧ Keep h h' [x] ∧ Str Z h' x cs)) T 0 #[.val (.ref x), .val (.ref A)] []
  refine blk (pc' := 4) (Ls' := #[.val (.ref x), .val (.ref A)]) (st' := [(.ref A), (.int (0 : Int32)), (.ref A), (.ref x)]) [oAloadN w.ok (dc.g 0 rfl), oAloadN w.ok (dc.g 1 rfl), oIconst w.ok (dc.g 2 rfl), oAloadN w.ok (dc.g 3 rfl)] rfl ?_
  refine w.len FA (dc.g 4 rfl) ?_
  show Go κ _ T 5 #[.val (.ref x), .val (.ref A)] [(.int (Int32.ofNat cs.length)), (.int (0 : Int32)), (.ref A), (.ref x)]
  refine blk (pc' := 6) (Ls' := #[.val (.ref x), .val (.ref A)]) (st' := [.null, (.int (Int32.ofNat cs.length)), (.int (0 : Int32)), (.ref A), (.ref x)]) [oAnull w.ok (dc.g 5 rfl)] rfl ?_
  refine w.callI rfl (wd hw 28 rfl) (wd hw 29 rfl) (wd hw 31 rfl) (by decide) (a := x) (argsL := [(.ref A), (.int (0 : Int32)), (.int (Int32.ofNat cs.length)), .null]) (Wd := 0) (Ctr.pays (len := 3) (Wd := 0) (c_si4 l Z a0 hw hEL hJS hJA c0 c1 c2 c3 hCT oz X FV FC hx0 FA hn hL hpos) w (wd hw 31 rfl) (wd hw 23 rfl) hEL (by decide) (by decide) (sfOne X.lt (Sf x (List.mem_singleton.mpr rfl)))) pd3 rfl (st := []) rfl rfl (Nat.le_of_eq rfl) (dc.g 6 rfl) (by decide) (by decide) ?_
  intro vm56 T57 h58 v59 w60 C61 Q62
  obtain ⟨rfl, q2⟩ := Q62
  show Go κ _ T57 9 #[.val (.ref x), .val (.ref A)] []
  exact w60.retV (dc.g 7 rfl) (by decide) (by decide) (fun S hS => ⟨rfl, q2⟩)
def D_coder : List (Nat × Instr × Nat) := [(0, .getstatic 38, 3), (3, .ifCond .eq 10, 3), (6, .aload_n 0, 1), (7, .getfield 15, 3), (10, .goto 4, 3), (13, .iconst 1, 1), (14, .ireturn, 1)]
theorem hD_coder : ∀ q ∈ D_coder, decode jdk_42_method_152_code q.1 = .ok q.2 := by decide +kernel
set_option maxRecDepth 65536 in
set_option maxHeartbeats 4000000 in
theorem c_coder (l : Launch) (Z : State) (a0 : Array Value) (hw : ∀ d ∈ tables_1, d.before a0 Z = true) (hEL : EW Z a0 []) (hJS : JS Z) (hJA : JA Z) (c0 c1 c2 c3 : Addr) (hCT : CT Z c0 c1 c2 c3) {a : Addr} {r : Int32} {h : Heap} (oz : Ext Z.heap h) (F : Fld Z h a "java/lang/String" "coder" "B" (.int r)) (hr : r = 0 ∨ r = 1) : Ctr l Z [] (⟨"java/lang/String", "coder", "()B"⟩ : MethodName) jdk_42_method_152_code 1 (some .byte) [] ({ frames := 0, cells := 0, slots := 0, locals := 0 } : Room) [] #[(.ref a)] h (fun v h' S => h = h' ∧ v = some (.int r)) := by
  refine enter (a0 := a0) (by first | (simp [plainName, overriddenIn]; done) | decide +kernel) hEL (Ls := #[.val (.ref a)]) (fun m => by first | (simp [entryFrame, mkF, argsToLocals, Value.category]; done) | rfl) ?_
  intro κ vm T hby hs w Sf
  have dc := Dec.of hby hD_coder
  show Go κ (GQ κ Z [] ({ frames := 0, cells := 0, slots := 0, locals := 0 } : Room) (fun v h' S => h = h' ∧ v = some (.int r))) T 0 #[.val (.ref a)] []
  have ozs : Ext Z.heap κ.s.heap := by rw [hs]; exact oz
  obtain ⟨⟨zc, hcs, hcz⟩, -⟩ := id hJS
  refine w.gets (wd hw 35 rfl) (hcs.ext (w.old ozs)) (dc.g 0 rfl) ?_
  intro T63 w64
  show Go κ _ T63 3 #[.val (.ref a)] [(.int zc)]
  refine zEq (pc' := 13) w64.ok (dc.g 1 rfl) (by decide) (by decide) (fun hc65 => absurd hc65 hcz) (fun hc65 => ?_)
  show Go κ _ T63 6 #[.val (.ref a)] []
  refine blk (pc' := 7) (Ls' := #[.val (.ref a)]) (st' := [(.ref a)]) [oAloadN w64.ok (dc.g 2 rfl)] rfl ?_
  refine w64.get (wd hw 47 rfl) F (dc.g 3 rfl) ?_
  intro T66 w67
  show Go κ _ T66 10 #[.val (.ref a)] [(.int r)]
  refine blk (pc' := 14) (Ls' := #[.val (.ref a)]) (st' := [(.int r)]) [oGoto w67.ok 14 (dc.g 4 rfl)] rfl ?_
  exact w67.retI (t := .byte) rfl (Or.inr (Or.inr (Or.inl rfl))) (by rcases hr with rfl | rfl <;> rfl) (dc.g 6 rfl) (by decide) (by decide) (fun S hS => ⟨rfl, rfl⟩)
def D_len : List (Nat × Instr × Nat) := [(0, .aload_n 0, 1), (1, .getfield 9, 3), (4, .arraylength, 1), (5, .aload_n 0, 1), (6, .invokevirtual 335, 3), (9, .ishr, 1), (10, .ireturn, 1)]
theorem hD_len : ∀ q ∈ D_len, decode jdk_42_method_54_code q.1 = .ok q.2 := by decide +kernel
set_option maxRecDepth 65536 in
set_option maxHeartbeats 4000000 in
theorem c_len (l : Launch) (Z : State) (a0 : Array Value) (hw : ∀ d ∈ tables_1, d.before a0 Z = true) (hEL : EW Z a0 []) (hJS : JS Z) (hJA : JA Z) (c0 c1 c2 c3 : Addr) (hCT : CT Z c0 c1 c2 c3) {a : Addr} {cs : List Int32} {h : Heap} (oz : Ext Z.heap h) (F : Str Z h a cs) : Ctr l Z [] (⟨"java/lang/String", "length", "()I"⟩ : MethodName) jdk_42_method_54_code 1 (some .int) [] ({ frames := 1, cells := 0, slots := 0, locals := 13 } : Room) [] #[(.ref a)] h (fun v h' S => h = h' ∧ v = some (.int (Int32.ofNat cs.length))) := by
  refine enter (a0 := a0) (by first | (simp [plainName, overriddenIn]; done) | decide +kernel) hEL (Ls := #[.val (.ref a)]) (fun m => by first | (simp [entryFrame, mkF, argsToLocals, Value.category]; done) | rfl) ?_
  intro κ vm T hby hs w Sf
  have dc := Dec.of hby hD_len
  show Go κ (GQ κ Z [] ({ frames := 1, cells := 0, slots := 0, locals := 13 } : Room) (fun v h' S => h = h' ∧ v = some (.int (Int32.ofNat cs.length)))) T 0 #[.val (.ref a)] []
  have ozs : Ext Z.heap κ.s.heap := by rw [hs]; exact oz
  obtain ⟨y, X, FV, hIC, hlen, hcase⟩ := F
  obtain ⟨vs, r, FY, FC, hr, hm⟩ : ∃ (vs : List Int32) (r : Int32), Ary Z h y .byte vs ∧ Fld Z h a "java/lang/String" "coder" "B" (.int r) ∧ (r = 0 ∨ r = 1) ∧ Int32.ofNat vs.length >>> (r &&& 31) = Int32.ofNat cs.length := by
    rcases hcase with ⟨q1, q2, q3⟩ | ⟨q1, q2, q3⟩
    · exact ⟨_, 0, q3, q2, Or.inl rfl, by rw [shr0, List.length_map]⟩
    · exact ⟨_, 1, q3, q2, Or.inr rfl, by rw [u16_len, ofNat_half (by omega)]⟩
  refine blk (pc' := 1) (Ls' := #[.val (.ref a)]) (st' := [(.ref a)]) [oAloadN w.ok (dc.g 0 rfl)] rfl ?_
  refine w.get (wd hw 49 rfl) FV (dc.g 1 rfl) ?_
  intro T68 w69
  show Go κ _ T68 4 #[.val (.ref a)] [(.ref y)]
  refine w69.len FY (dc.g 2 rfl) ?_
  show Go κ _ T68 5 #[.val (.ref a)] [(.int (Int32.ofNat vs.length))]
  refine blk (pc' := 6) (Ls' := #[.val (.ref a)]) (st' := [(.ref a), (.int (Int32.ofNat vs.length))]) [oAloadN w69.ok (dc.g 3 rfl)] rfl ?_
  refine w69.callV (wd hw 114 rfl) (wd hw 115 rfl) (notFace (wd hw 117 rfl)) (wd hw 117 rfl) (wd hw 116 rfl) (by decide) (a := a) X (argsL := []) (Wd := 1) (Ctr.pays (len := 3) (Wd := 1) (c_coder l Z a0 hw hEL hJS hJA c0 c1 c2 c3 hCT (w69.old ozs) FC hr) w69 (wd hw 118 rfl) (wd hw 23 rfl) hEL (by decide) (by decide) sfNil) pd4 rfl (st := [(.int (Int32.ofNat vs.length))]) rfl rfl (Nat.le_of_eq rfl) (dc.g 4 rfl) (by decide) (by decide) ?_
  intro vm70 T71 h72 v73 w74 C75 Q76
  obtain ⟨e2, rfl⟩ := Q76
  subst e2
  show Go κ _ T71 9 #[.val (.ref a)] [(.int r), (.int (Int32.ofNat vs.length))]
  refine blk (pc' := 10) (Ls' := #[.val (.ref a)]) (st' := [(.int ((Int32.ofNat vs.length) >>> (r &&& 31)))]) [oIshr w74.ok (dc.g 5 rfl)] rfl ?_
  rw [hm]
  show Go κ _ T71 10 #[.val (.ref a)] [(.int (Int32.ofNat cs.length))]
  exact w74.retI (t := .int) rfl (Or.inl rfl) rfl (dc.g 6 rfl) (by decide) (by decide) (fun S hS => ⟨rfl, rfl⟩)
def D_isl : List (Nat × Instr × Nat) := [(0, .getstatic 38, 3), (3, .ifCond .eq 14, 3), (6, .aload_n 0, 1), (7, .getfield 15, 3), (10, .ifCond .ne 7, 3), (13, .iconst 1, 1), (14, .goto 4, 3), (17, .iconst 0, 1), (18, .ireturn, 1)]
theorem hD_isl : ∀ q ∈ D_isl, decode jdk_42_method_154_code q.1 = .ok q.2 := by decide +kernel
set_option maxRecDepth 65536 in
set_option maxHeartbeats 4000000 in
theorem c_isl (l : Launch) (Z : State) (a0 : Array Value) (hw : ∀ d ∈ tables_1, d.before a0 Z = true) (hEL : EW Z a0 []) (hJS : JS Z) (hJA : JA Z) (c0 c1 c2 c3 : Addr) (hCT : CT Z c0 c1 c2 c3) {a : Addr} {r : Int32} {h : Heap} (oz : Ext Z.heap h) (F : Fld Z h a "java/lang/String" "coder" "B" (.int r)) : Ctr l Z [] (⟨"java/lang/String", "isLatin1", "()Z"⟩ : MethodName) jdk_42_method_154_code 1 (some .boolean) [] ({ frames := 0, cells := 0, slots := 0, locals := 0 } : Room) [] #[(.ref a)] h (fun v h' S => h = h' ∧ v = some (.int (if r = 0 then 1 else 0))) := by
  refine enter (a0 := a0) (by first | (simp [plainName, overriddenIn]; done) | decide +kernel) hEL (Ls := #[.val (.ref a)]) (fun m => by first | (simp [entryFrame, mkF, argsToLocals, Value.category]; done) | rfl) ?_
  intro κ vm T hby hs w Sf
  have dc := Dec.of hby hD_isl
  show Go κ (GQ κ Z [] ({ frames := 0, cells := 0, slots := 0, locals := 0 } : Room) (fun v h' S => h = h' ∧ v = some (.int (if r = 0 then 1 else 0)))) T 0 #[.val (.ref a)] []
  have ozs : Ext Z.heap κ.s.heap := by rw [hs]; exact oz
  obtain ⟨⟨zc, hcs, hcz⟩, -⟩ := id hJS
  refine w.gets (wd hw 35 rfl) (hcs.ext (w.old ozs)) (dc.g 0 rfl) ?_
  intro T77 w78
  show Go κ _ T77 3 #[.val (.ref a)] [(.int zc)]
  refine zEq (pc' := 17) w78.ok (dc.g 1 rfl) (by decide) (by decide) (fun hc79 => absurd hc79 hcz) (fun hc79 => ?_)
  show Go κ _ T77 6 #[.val (.ref a)] []
  refine blk (pc' := 7) (Ls' := #[.val (.ref a)]) (st' := [(.ref a)]) [oAloadN w78.ok (dc.g 2 rfl)] rfl ?_
  refine w78.get (wd hw 47 rfl) F (dc.g 3 rfl) ?_
  intro T80 w81
  show Go κ _ T80 10 #[.val (.ref a)] [(.int r)]
  refine zNe (pc' := 17) w81.ok (dc.g 4 rfl) (by decide) (by decide) (fun hc82 => ?_) (fun hc82 => ?_)
  · show Go κ _ T80 17 #[.val (.ref a)] []
    refine blk (pc' := 18) (Ls' := #[.val (.ref a)]) (st' := [(.int (0 : Int32))]) [oIconst w81.ok (dc.g 7 rfl)] rfl ?_
    exact w81.retI (t := .boolean) rfl (Or.inr (Or.inl rfl)) rfl (dc.g 8 rfl) (by decide) (by decide) (fun S hS => ⟨rfl, by rw [if_neg hc82]⟩)
  · show Go κ _ T80 13 #[.val (.ref a)] []
    refine blk (pc' := 18) (Ls' := #[.val (.ref a)]) (st' := [(.int (1 : Int32))]) [oIconst w81.ok (dc.g 5 rfl), oGoto w81.ok 18 (dc.g 6 rfl)] rfl ?_
    exact w81.retI (t := .boolean) rfl (Or.inr (Or.inl rfl)) rfl (dc.g 8 rfl) (by decide) (by decide) (fun S hS => ⟨rfl, by rw [if_pos hc82]⟩)
def D_gp : List (Nat × Instr × Nat) := [(0, .iload_n 1, 1), (1, .i2c, 1), (2, .istore_n 2, 1), (3, .getstatic 1, 3), (6, .iload_n 2, 1), (7, .iaload, 1), (8, .istore_n 3, 1), (9, .iload_n 3, 1), (10, .ireturn, 1)]
theorem hD_gp : ∀ q ∈ D_gp, decode jdk_116_method_1_code q.1 = .ok q.2 := by decide +kernel
set_option maxRecDepth 65536 in
set_option maxHeartbeats 4000000 in
theorem c_gp (l : Launch) (Z : State) (a0 : Array Value) (hw : ∀ d ∈ tables_1, d.before a0 Z = true) (hEL : EW Z a0 []) (hJS : JS Z) (hJA : JA Z) (c0 c1 c2 c3 : Addr) (hCT : CT Z c0 c1 c2 c3) {x : Addr} {i : Nat} {p : Int32} {h : Heap} (oz : Ext Z.heap h) (hi : i < 256) (hp : AL[i]? = some p) : Ctr l Z [] (⟨"java/lang/CharacterDataLatin1", "getProperties", "(I)I"⟩ : MethodName) jdk_116_method_1_code 4 (some .int) [] ({ frames := 0, cells := 0, slots := 0, locals := 0 } : Room) [] #[(.ref x), (.int (Int32.ofNat i))] h (fun v h' S => h = h' ∧ v = some (.int p)) := by
  refine enter (a0 := a0) (by first | (simp [plainName, overriddenIn]; done) | decide +kernel) hEL (Ls := #[.val (.ref x), .val (.int (Int32.ofNat i)), .unset, .unset]) (fun m => by first | (simp [entryFrame, mkF, argsToLocals, Value.category]; done) | rfl) ?_
  intro κ vm T hby hs w Sf
  have dc := Dec.of hby hD_gp
  show Go κ (GQ κ Z [] ({ frames := 0, cells := 0, slots := 0, locals := 0 } : Room) (fun v h' S => h = h' ∧ v = some (.int p))) T 0 #[.val (.ref x), .val (.int (Int32.ofNat i)), .unset, .unset] []
  have ozs : Ext Z.heap κ.s.heap := by rw [hs]; exact oz
  obtain ⟨-, y, hy, FY⟩ := id hJA
  refine blk (pc' := 3) (Ls' := #[.val (.ref x), .val (.int (Int32.ofNat i)), .val (.int (((Int32.ofNat i)).toUInt32.toUInt16.toUInt32.toInt32)), .unset]) (st' := []) [oIloadN w.ok (dc.g 0 rfl), oI2c w.ok (dc.g 1 rfl), oIstoreN w.ok (dc.g 2 rfl)] rfl ?_
  rw [char_of (own_lt256 hi).1 (le255 (own_lt256 hi).2)]
  show Go κ _ T 3 #[.val (.ref x), .val (.int (Int32.ofNat i)), .val (.int (Int32.ofNat i)), .unset] []
  refine w.gets (wd hw 108 rfl) (hy.ext (w.old ozs)) (dc.g 3 rfl) ?_
  intro T83 w84
  show Go κ _ T83 6 #[.val (.ref x), .val (.int (Int32.ofNat i)), .val (.int (Int32.ofNat i)), .unset] [(.ref y)]
  refine blk (pc' := 7) (Ls' := #[.val (.ref x), .val (.int (Int32.ofNat i)), .val (.int (Int32.ofNat i)), .unset]) (st' := [(.int (Int32.ofNat i)), (.ref y)]) [oIloadN w84.ok (dc.g 4 rfl)] rfl ?_
  refine w84.ild (FY.ext (w84.old ozs)) (i := i) rfl hp (dc.g 5 rfl) ?_
  show Go κ _ T83 8 #[.val (.ref x), .val (.int (Int32.ofNat i)), .val (.int (Int32.ofNat i)), .unset] [(.int p)]
  refine blk (pc' := 10) (Ls' := #[.val (.ref x), .val (.int (Int32.ofNat i)), .val (.int (Int32.ofNat i)), .val (.int p)]) (st' := [(.int p)]) [oIstoreN w84.ok (dc.g 6 rfl), oIloadN w84.ok (dc.g 7 rfl)] rfl ?_
  exact w84.retI (t := .int) rfl (Or.inl rfl) rfl (dc.g 8 rfl) (by decide) (by decide) (fun S hS => ⟨rfl, rfl⟩)
def D_isws : List (Nat × Instr × Nat) := [(0, .aload_n 0, 1), (1, .iload_n 1, 1), (2, .invokevirtual 15, 3), (5, .istore_n 2, 1), (6, .iload_n 2, 1), (7, .sipush 28672, 3), (10, .iand, 1), (11, .sipush 16384, 3), (14, .if_icmp .ne 7, 3), (17, .iconst 1, 1), (18, .goto 4, 3), (21, .iconst 0, 1), (22, .ireturn, 1)]
theorem hD_isws : ∀ q ∈ D_isws, decode jdk_116_method_26_code q.1 = .ok q.2 := by decide +kernel
set_option maxRecDepth 65536 in
set_option maxHeartbeats 4000000 in
theorem c_isws (l : Launch) (Z : State) (a0 : Array Value) (hw : ∀ d ∈ tables_1, d.before a0 Z = true) (hEL : EW Z a0 []) (hJS : JS Z) (hJA : JA Z) (c0 c1 c2 c3 : Addr) (hCT : CT Z c0 c1 c2 c3) {x : Addr} {c : Int32} {h : Heap} (oz : Ext Z.heap h) (X : Exa Z h x "java/lang/CharacterDataLatin1") (hc : ¬ c < 0 ∧ ¬ 255 < c) : Ctr l Z [] (⟨"java/lang/CharacterDataLatin1", "isWhitespace", "(I)Z"⟩ : MethodName) jdk_116_method_26_code 3 (some .boolean) [] ({ frames := 1, cells := 0, slots := 0, locals := 15 } : Room) [] #[(.ref x), (.int c)] h (fun v h' S => h = h' ∧ v = some (.int (if wsI c = true then 1 else 0))) := by
  refine enter (a0 := a0) (by first | (simp [plainName, overriddenIn]; done) | decide +kernel) hEL (Ls := #[.val (.ref x), .val (.int c), .unset]) (fun m => by first | (simp [entryFrame, mkF, argsToLocals, Value.category]; done) | rfl) ?_
  intro κ vm T hby hs w Sf
  have dc := Dec.of hby hD_isws
  show Go κ (GQ κ Z [] ({ frames := 1, cells := 0, slots := 0, locals := 15 } : Room) (fun v h' S => h = h' ∧ v = some (.int (if wsI c = true then 1 else 0)))) T 0 #[.val (.ref x), .val (.int c), .unset] []
  have ozs : Ext Z.heap κ.s.heap := by rw [hs]; exact oz
  obtain ⟨i, hi, rfl⟩ := own_nat hc.1 hc.2
  obtain ⟨p, hp⟩ : ∃ p, AL[i]? = some p := ⟨_, List.getElem?_eq_getElem (by exact hi)⟩
  show Go κ _ T 0 #[.val (.ref x), .val (.int (Int32.ofNat i)), .unset] []
  refine blk (pc' := 2) (Ls' := #[.val (.ref x), .val (.int (Int32.ofNat i)), .unset]) (st' := [(.int (Int32.ofNat i)), (.ref x)]) [oAloadN w.ok (dc.g 0 rfl), oIloadN w.ok (dc.g 1 rfl)] rfl ?_
  refine w.callV (wd hw 103 rfl) (wd hw 104 rfl) (notFace (wd hw 106 rfl)) (wd hw 106 rfl) (wd hw 105 rfl) (by decide) (a := x) X (argsL := [(.int (Int32.ofNat i))]) (Wd := 0) (Ctr.pays (len := 3) (Wd := 0) (c_gp l Z a0 hw hEL hJS hJA c0 c1 c2 c3 hCT (w.old ozs) hi hp) w (wd hw 107 rfl) (wd hw 97 rfl) hEL (by decide) (by decide) sfNil) pd5 rfl (st := []) rfl rfl (Nat.le_of_eq rfl) (dc.g 2 rfl) (by decide) (by decide) ?_
  intro vm85 T86 h87 v88 w89 C90 Q91
  obtain ⟨eQ91, rfl⟩ := Q91
  subst eQ91
  show Go κ _ T86 5 #[.val (.ref x), .val (.int (Int32.ofNat i)), .unset] [(.int p)]
  refine blk (pc' := 14) (Ls' := #[.val (.ref x), .val (.int (Int32.ofNat i)), .val (.int p)]) (st' := [(.int (16384 : Int32)), (.int (p &&& (28672 : Int32)))]) [oIstoreN w89.ok (dc.g 3 rfl), oIloadN w89.ok (dc.g 4 rfl), oSipush w89.ok (dc.g 5 rfl), oIand w89.ok (dc.g 6 rfl), oSipush w89.ok (dc.g 7 rfl)] rfl ?_
  refine cNe (pc' := 21) w89.ok (dc.g 8 rfl) (by decide) (by decide) (fun hc92 => ?_) (fun hc92 => ?_)
  · show Go κ _ T86 21 #[.val (.ref x), .val (.int (Int32.ofNat i)), .val (.int p)] []
    refine blk (pc' := 22) (Ls' := #[.val (.ref x), .val (.int (Int32.ofNat i)), .val (.int p)]) (st' := [(.int (0 : Int32))]) [oIconst w89.ok (dc.g 11 rfl)] rfl ?_
    exact w89.retI (t := .boolean) rfl (Or.inr (Or.inl rfl)) rfl (dc.g 12 rfl) (by decide) (by decide) (fun S hS => ⟨rfl, by rw [if_neg (fun q => hc92 ((own_ws1 hp).mpr q))]⟩)
  · show Go κ _ T86 17 #[.val (.ref x), .val (.int (Int32.ofNat i)), .val (.int p)] []
    refine blk (pc' := 22) (Ls' := #[.val (.ref x), .val (.int (Int32.ofNat i)), .val (.int p)]) (st' := [(.int (1 : Int32))]) [oIconst w89.ok (dc.g 9 rfl), oGoto w89.ok 22 (dc.g 10 rfl)] rfl ?_
    exact w89.retI (t := .boolean) rfl (Or.inr (Or.inl rfl)) rfl (dc.g 12 rfl) (by decide) (by decide) (fun S hS => ⟨rfl, by rw [if_pos ((own_ws1 hp).mp hc92)]⟩)
def D_lgc : List (Nat × Instr × Nat) := [(0, .aload_n 0, 1), (1, .iload_n 1, 1), (2, .baload, 1), (3, .sipush 255, 3), (6, .iand, 1), (7, .i2c, 1), (8, .ireturn, 1)]
theorem hD_lgc : ∀ q ∈ D_lgc, decode jdk_43_method_44_code q.1 = .ok q.2 := by decide +kernel
set_option maxRecDepth 65536 in
set_option maxHeartbeats 4000000 in
theorem c_lgc (l : Launch) (Z : State) (a0 : Array Value) (hw : ∀ d ∈ tables_1, d.before a0 Z = true) (hEL : EW Z a0 []) (hJS : JS Z) (hJA : JA Z) (c0 c1 c2 c3 : Addr) (hCT : CT Z c0 c1 c2 c3) {y : Addr} {i : Nat} {c : Int32} {cs : List Int32} {h : Heap} (F : Ary Z h y .byte (cs.map lo8)) (hL : IsL cs) (hi : cs[i]? = some c) : Ctr l Z [] (⟨"java/lang/StringLatin1", "getChar", "([BI)C"⟩ : MethodName) jdk_43_method_44_code 2 (some .char) [] ({ frames := 0, cells := 0, slots := 0, locals := 0 } : Room) [] #[(.ref y), (.int (Int32.ofNat i))] h (fun v h' S => h = h' ∧ v = some (.int c)) := by
  refine enter (a0 := a0) (by first | (simp [plainName, overriddenIn]; done) | decide +kernel) hEL (Ls := #[.val (.ref y), .val (.int (Int32.ofNat i))]) (fun m => by first | (simp [entryFrame, mkF, argsToLocals, Value.category]; done) | rfl) ?_
  intro κ vm T hby hs w Sf
  have dc := Dec.of hby hD_lgc
  show Go κ (GQ κ Z [] ({ frames := 0, cells := 0, slots := 0, locals := 0 } : Room) (fun v h' S => h = h' ∧ v = some (.int c))) T 0 #[.val (.ref y), .val (.int (Int32.ofNat i))] []
  have hcc := hL c (List.mem_of_getElem? hi)
  have hcd := hL.isC c (List.mem_of_getElem? hi)
  refine blk (pc' := 2) (Ls' := #[.val (.ref y), .val (.int (Int32.ofNat i))]) (st' := [(.int (Int32.ofNat i)), (.ref y)]) [oAloadN w.ok (dc.g 0 rfl), oIloadN w.ok (dc.g 1 rfl)] rfl ?_
  refine w.bld F (i := i) rfl (by rw [List.getElem?_map, hi]; rfl) (dc.g 2 rfl) ?_
  show Go κ _ T 3 #[.val (.ref y), .val (.int (Int32.ofNat i))] [(.int (lo8 c))]
  refine blk (pc' := 8) (Ls' := #[.val (.ref y), .val (.int (Int32.ofNat i))]) (st' := [(.int ((((lo8 c) &&& (255 : Int32))).toUInt32.toUInt16.toUInt32.toInt32))]) [oSipush w.ok (dc.g 3 rfl), oIand w.ok (dc.g 4 rfl), oI2c w.ok (dc.g 5 rfl)] rfl ?_
  rw [lo8_and hcc.1 hcc.2, char_of hcd.1 hcd.2]
  show Go κ _ T 8 #[.val (.ref y), .val (.int (Int32.ofNat i))] [(.int c)]
  exact w.retI (t := .char) rfl (Or.inr (Or.inr (Or.inr (Or.inl rfl)))) (narrow_char hcd.1 hcd.2) (dc.g 6 rfl) (by decide) (by decide) (fun S hS => ⟨rfl, rfl⟩)
def D_liow : List (Nat × Instr × Nat) := [(0, .aload_n 0, 1), (1, .arraylength, 1), (2, .istore_n 1, 1), (3, .iconst 0, 1), (4, .istore_n 2, 1), (5, .iload_n 2, 1), (6, .iload_n 1, 1), (7, .if_icmp .ge 40, 3), (10, .aload_n 0, 1), (11, .iload_n 2, 1), (12, .invokestatic 50, 3), (15, .istore_n 3, 1), (16, .iload_n 3, 1), (17, .bipush 32, 2), (19, .if_icmp .eq 22, 3), (22, .iload_n 3, 1), (23, .bipush 9, 2), (25, .if_icmp .eq 16, 3), (28, .getstatic 66, 3), (31, .iload_n 3, 1), (32, .invokevirtual 211, 3), (35, .ifCond .ne 6, 3), (38, .goto 9, 3), (41, .iinc 2 1, 3), (44, .goto (-39), 3), (47, .iload_n 2, 1), (48, .ireturn, 1)]
theorem hD_liow : ∀ q ∈ D_liow, decode jdk_43_method_37_code q.1 = .ok q.2 := by decide +kernel
set_option maxRecDepth 65536 in
set_option maxHeartbeats 4000000 in
theorem c_liow (l : Launch) (Z : State) (a0 : Array Value) (hw : ∀ d ∈ tables_1, d.before a0 Z = true) (hEL : EW Z a0 []) (hJS : JS Z) (hJA : JA Z) (c0 c1 c2 c3 : Addr) (hCT : CT Z c0 c1 c2 c3) {y : Addr} {cs : List Int32} {h : Heap} (oz : Ext Z.heap h) (F : Ary Z h y .byte (cs.map lo8)) (hL : IsL cs) : Ctr l Z [] (⟨"java/lang/StringLatin1", "indexOfNonWhitespace", "([B)I"⟩ : MethodName) jdk_43_method_37_code 4 (some .int) [] ({ frames := 2, cells := 0, slots := 0, locals := 29 } : Room) [] #[(.ref y)] h (fun v h' S => h = h' ∧ ∃ r, r ≤ cs.length ∧ v = some (.int (Int32.ofNat r)) ∧ (r = cs.length → cs.all wsI = true)) := by
  refine enter (a0 := a0) (by first | (simp [plainName, overriddenIn]; done) | decide +kernel) hEL (Ls := #[.val (.ref y), .unset, .unset, .unset]) (fun m => by first | (simp [entryFrame, mkF, argsToLocals, Value.category]; done) | rfl) ?_
  intro κ vm T hby hs w Sf
  have dc := Dec.of hby hD_liow
  show Go κ (GQ κ Z [] ({ frames := 2, cells := 0, slots := 0, locals := 29 } : Room) (fun v h' S => h = h' ∧ ∃ r, r ≤ cs.length ∧ v = some (.int (Int32.ofNat r)) ∧ (r = cs.length → cs.all wsI = true))) T 0 #[.val (.ref y), .unset, .unset, .unset] []
  have ozs : Ext Z.heap κ.s.heap := by rw [hs]; exact oz
  have hN := F.small
  rw [List.length_map] at hN
  have hJA0 := id hJA
  obtain ⟨⟨x, hx, X⟩, -⟩ := hJA0
  refine blk (pc' := 1) (Ls' := #[.val (.ref y), .unset, .unset, .unset]) (st' := [(.ref y)]) [oAloadN w.ok (dc.g 0 rfl)] rfl ?_
  refine w.len F (dc.g 1 rfl) ?_
  show Go κ _ T 2 #[.val (.ref y), .unset, .unset, .unset] [(.int (Int32.ofNat (cs.map lo8).length))]
  rw [List.length_map]
  show Go κ _ T 2 #[.val (.ref y), .unset, .unset, .unset] [(.int (Int32.ofNat cs.length))]
  refine blk (pc' := 5) (Ls' := #[.val (.ref y), .val (.int (Int32.ofNat cs.length)), .val (.int (0 : Int32)), .unset]) (st' := []) [oIstoreN w.ok (dc.g 2 rfl), oIconst w.ok (dc.g 3 rfl), oIstoreN w.ok (dc.g 4 rfl)] rfl ?_
  have key : ∀ (f i : Nat), i + f = cs.length → (cs.take i).all wsI = true → ∀ (vm1 : Vm) (T1 : State) (s3 : Slot), W κ l ({ frames := 2, cells := 0, slots := 0, locals := 29 } : Room) Z [] "java/lang/StringLatin1" "indexOfNonWhitespace" 4 (some .int) vm1 T1 h 0 0 → One s3 → Go κ (GQ κ Z [] ({ frames := 2, cells := 0, slots := 0, locals := 29 } : Room) (fun v h' S => h = h' ∧ ∃ r, r ≤ cs.length ∧ v = some (.int (Int32.ofNat r)) ∧ (r = cs.length → cs.all wsI = true))) T1 5 #[.val (.ref y), .val (.int (Int32.ofNat cs.length)), .val (.int (Int32.ofNat i)), s3] [] := by
    intro f
    induction f with
    | zero =>
      intro i hi ht vm1 T1 s3 w1 hs3
      obtain rfl : i = cs.length := by omega
      show Go κ _ T1 5 #[.val (.ref y), .val (.int (Int32.ofNat cs.length)), .val (.int (Int32.ofNat cs.length)), s3] []
      refine blk (pc' := 7) (Ls' := #[.val (.ref y), .val (.int (Int32.ofNat cs.length)), .val (.int (Int32.ofNat cs.length)), s3]) (st' := [(.int (Int32.ofNat cs.length)), (.int (Int32.ofNat cs.length))]) [oIloadN w1.ok (dc.g 5 rfl), oIloadN w1.ok (dc.g 6 rfl)] rfl ?_
      refine cGe (pc' := 47) w1.ok (dc.g 7 rfl) (by decide) (by decide) (fun hc93 => ?_) (fun hc93 => absurd hc93 (fun q => absurd q (by rw [ofNat_lt hN hN]; omega)))
      show Go κ _ T1 47 #[.val (.ref y), .val (.int (Int32.ofNat cs.length)), .val (.int (Int32.ofNat cs.length)), s3] []
      refine blk (pc' := 48) (Ls' := #[.val (.ref y), .val (.int (Int32.ofNat cs.length)), .val (.int (Int32.ofNat cs.length)), s3]) (st' := [(.int (Int32.ofNat cs.length))]) [oIloadN w1.ok (dc.g 25 rfl)] rfl ?_
      exact w1.retI (t := .int) rfl (Or.inl rfl) rfl (dc.g 26 rfl) (by decide) (by decide) (fun S hS => ⟨rfl, cs.length, Nat.le_refl _, rfl, fun _ => by simpa using ht⟩)
    | succ f ih =>
      intro i hi ht vm1 T1 s3 w1 hs3
      obtain ⟨c, hc⟩ : ∃ c, cs[i]? = some c := ⟨_, List.getElem?_eq_getElem (by omega)⟩
      show Go κ _ T1 5 #[.val (.ref y), .val (.int (Int32.ofNat cs.length)), .val (.int (Int32.ofNat i)), s3] []
      refine blk (pc' := 7) (Ls' := #[.val (.ref y), .val (.int (Int32.ofNat cs.length)), .val (.int (Int32.ofNat i)), s3]) (st' := [(.int (Int32.ofNat cs.length)), (.int (Int32.ofNat i))]) [oIloadN w1.ok (dc.g 5 rfl), oIloadN w1.ok (dc.g 6 rfl)] rfl ?_
      refine cGe (pc' := 47) w1.ok (dc.g 7 rfl) (by decide) (by decide) (fun hc94 => absurd ((ofNat_lt (by omega) hN).mpr (by omega)) hc94) (fun hc94 => ?_)
      show Go κ _ T1 10 #[.val (.ref y), .val (.int (Int32.ofNat cs.length)), .val (.int (Int32.ofNat i)), s3] []
      refine blk (pc' := 12) (Ls' := #[.val (.ref y), .val (.int (Int32.ofNat cs.length)), .val (.int (Int32.ofNat i)), s3]) (st' := [(.int (Int32.ofNat i)), (.ref y)]) [oAloadN w1.ok (dc.g 8 rfl), oIloadN w1.ok (dc.g 9 rfl)] rfl ?_
      refine w1.callS (wd hw 93 rfl) (wd hw 94 rfl) (wd hw 91 rfl) (wd hw 95 rfl) (by decide) (argsL := [(.ref y), (.int (Int32.ofNat i))]) (Wd := 0) (Ctr.pays (len := 3) (Wd := 0) (c_lgc l Z a0 hw hEL hJS hJA c0 c1 c2 c3 hCT F hL hc) w1 (wd hw 95 rfl) (wd hw 91 rfl) hEL (by decide) (by decide) sfNil) pd6 rfl (st := []) rfl rfl (Nat.le_of_eq rfl) (dc.g 10 rfl) (by decide) (by decide) ?_
      intro vm95 T96 h97 v98 w99 C100 Q101
      obtain ⟨eQ101, rfl⟩ := Q101
      subst eQ101
      show Go κ _ T96 15 #[.val (.ref y), .val (.int (Int32.ofNat cs.length)), .val (.int (Int32.ofNat i)), s3] [(.int c)]
      refine istoreNG w99.ok (dc.g 11 rfl) rfl hs3 ?_
      show Go κ _ T96 16 #[.val (.ref y), .val (.int (Int32.ofNat cs.length)), .val (.int (Int32.ofNat i)), .val (.int c)] []
      refine blk (pc' := 19) (Ls' := #[.val (.ref y), .val (.int (Int32.ofNat cs.length)), .val (.int (Int32.ofNat i)), .val (.int c)]) (st' := [(.int (32 : Int32)), (.int c)]) [oIloadN w99.ok (dc.g 12 rfl), oBipush w99.ok (dc.g 13 rfl)] rfl ?_
      refine cEq (pc' := 41) w99.ok (dc.g 14 rfl) (by decide) (by decide) (fun hc102 => ?_) (fun hc102 => ?_)
      · show Go κ _ T96 41 #[.val (.ref y), .val (.int (Int32.ofNat cs.length)), .val (.int (Int32.ofNat i)), .val (.int c)] []
        refine blk (pc' := 5) (Ls' := #[.val (.ref y), .val (.int (Int32.ofNat cs.length)), .val (.int ((Int32.ofNat i) + (1 : Int32))), .val (.int c)]) (st' := []) [oIinc w99.ok (dc.g 23 rfl), oGoto w99.ok 5 (dc.g 24 rfl)] rfl ?_
        rw [ofNat_succ]
        exact ih (i + 1) (by omega) (by rw [take_succ hc, List.all_append, ht]; simp [show wsI c = true by rw [hc102]; decide]) _ _ _ w99 (One.val rfl)
      · show Go κ _ T96 22 #[.val (.ref y), .val (.int (Int32.ofNat cs.length)), .val (.int (Int32.ofNat i)), .val (.int c)] []
        refine blk (pc' := 25) (Ls' := #[.val (.ref y), .val (.int (Int32.ofNat cs.length)), .val (.int (Int32.ofNat i)), .val (.int c)]) (st' := [(.int (9 : Int32)), (.int c)]) [oIloadN w99.ok (dc.g 15 rfl), oBipush w99.ok (dc.g 16 rfl)] rfl ?_
        refine cEq (pc' := 41) w99.ok (dc.g 17 rfl) (by decide) (by decide) (fun hc103 => ?_) (fun hc103 => ?_)
        · show Go κ _ T96 41 #[.val (.ref y), .val (.int (Int32.ofNat cs.length)), .val (.int (Int32.ofNat i)), .val (.int c)] []
          refine blk (pc' := 5) (Ls' := #[.val (.ref y), .val (.int (Int32.ofNat cs.length)), .val (.int ((Int32.ofNat i) + (1 : Int32))), .val (.int c)]) (st' := []) [oIinc w99.ok (dc.g 23 rfl), oGoto w99.ok 5 (dc.g 24 rfl)] rfl ?_
          rw [ofNat_succ]
          exact ih (i + 1) (by omega) (by rw [take_succ hc, List.all_append, ht]; simp [show wsI c = true by rw [hc103]; decide]) _ _ _ w99 (One.val rfl)
        · show Go κ _ T96 28 #[.val (.ref y), .val (.int (Int32.ofNat cs.length)), .val (.int (Int32.ofNat i)), .val (.int c)] []
          refine w99.gets (wd hw 96 rfl) (hx.ext (w99.old ozs)) (dc.g 18 rfl) ?_
          intro T104 w105
          show Go κ _ T104 31 #[.val (.ref y), .val (.int (Int32.ofNat cs.length)), .val (.int (Int32.ofNat i)), .val (.int c)] [(.ref x)]
          refine blk (pc' := 32) (Ls' := #[.val (.ref y), .val (.int (Int32.ofNat cs.length)), .val (.int (Int32.ofNat i)), .val (.int c)]) (st' := [(.int c), (.ref x)]) [oIloadN w105.ok (dc.g 19 rfl)] rfl ?_
          refine w105.callV (wd hw 98 rfl) (wd hw 99 rfl) (notFace (wd hw 101 rfl)) (wd hw 101 rfl) (wd hw 100 rfl) (by decide) (a := x) (X.ext (w105.old ozs)) (argsL := [(.int c)]) (Wd := 0) (Ctr.pays (len := 3) (Wd := 0) (c_isws l Z a0 hw hEL hJS hJA c0 c1 c2 c3 hCT (w105.old ozs) (X.ext (w105.old ozs)) (hL c (List.mem_of_getElem? hc))) w105 (wd hw 102 rfl) (wd hw 97 rfl) hEL (by decide) (by decide) sfNil) pd7 rfl (st := []) rfl rfl (Nat.le_of_eq rfl) (dc.g 20 rfl) (by decide) (by decide) ?_
          intro vm106 T107 h108 v109 w110 C111 Q112
          obtain ⟨eQ112, rfl⟩ := Q112
          subst eQ112
          show Go κ _ T107 35 #[.val (.ref y), .val (.int (Int32.ofNat cs.length)), .val (.int (Int32.ofNat i)), .val (.int c)] [(.int (if wsI c = true then (1 : Int32) else 0))]
          cases hk : wsI c
          · refine Go.top (y := (0 : Int32)) (if_neg (by decide)) ?_
            show Go κ _ T107 35 #[.val (.ref y), .val (.int (Int32.ofNat cs.length)), .val (.int (Int32.ofNat i)), .val (.int c)] [(.int (0 : Int32))]
            refine zNe (pc' := 41) w110.ok (dc.g 21 rfl) (by decide) (by decide) (fun hc113 => absurd rfl hc113) (fun hc113 => ?_)
            show Go κ _ T107 38 #[.val (.ref y), .val (.int (Int32.ofNat cs.length)), .val (.int (Int32.ofNat i)), .val (.int c)] []
            refine blk (pc' := 48) (Ls' := #[.val (.ref y), .val (.int (Int32.ofNat cs.length)), .val (.int (Int32.ofNat i)), .val (.int c)]) (st' := [(.int (Int32.ofNat i))]) [oGoto w110.ok 47 (dc.g 22 rfl), oIloadN w110.ok (dc.g 25 rfl)] rfl ?_
            exact w110.retI (t := .int) rfl (Or.inl rfl) rfl (dc.g 26 rfl) (by decide) (by decide) (fun S hS => ⟨rfl, i, by omega, rfl, fun q => by omega⟩)
          · refine Go.top (y := (1 : Int32)) (if_pos rfl) ?_
            show Go κ _ T107 35 #[.val (.ref y), .val (.int (Int32.ofNat cs.length)), .val (.int (Int32.ofNat i)), .val (.int c)] [(.int (1 : Int32))]
            refine zNe (pc' := 41) w110.ok (dc.g 21 rfl) (by decide) (by decide) (fun hc114 => ?_) (fun hc114 => absurd hc114 (by decide))
            show Go κ _ T107 41 #[.val (.ref y), .val (.int (Int32.ofNat cs.length)), .val (.int (Int32.ofNat i)), .val (.int c)] []
            refine blk (pc' := 5) (Ls' := #[.val (.ref y), .val (.int (Int32.ofNat cs.length)), .val (.int ((Int32.ofNat i) + (1 : Int32))), .val (.int c)]) (st' := []) [oIinc w110.ok (dc.g 23 rfl), oGoto w110.ok 5 (dc.g 24 rfl)] rfl ?_
            rw [ofNat_succ]
            exact ih (i + 1) (by omega) (by rw [take_succ hc, List.all_append, ht]; simp [hk]) _ _ _ w110 (One.val rfl)
  exact key cs.length 0 (by omega) rfl _ _ _ w One.u
def D_leq : List (Nat × Instr × Nat) := [(0, .aload_n 0, 1), (1, .arraylength, 1), (2, .aload_n 1, 1), (3, .arraylength, 1), (4, .if_icmp .ne 30, 3), (7, .iconst 0, 1), (8, .istore_n 2, 1), (9, .iload_n 2, 1), (10, .aload_n 0, 1), (11, .arraylength, 1), (12, .if_icmp .ge 20, 3), (15, .aload_n 0, 1), (16, .iload_n 2, 1), (17, .baload, 1), (18, .aload_n 1, 1), (19, .iload_n 2, 1), (20, .baload, 1), (21, .if_icmp .eq 5, 3), (24, .iconst 0, 1), (25, .ireturn, 1), (26, .iinc 2 1, 3), (29, .goto (-20), 3), (32, .iconst 1, 1), (33, .ireturn, 1), (34, .iconst 0, 1), (35, .ireturn, 1)]
theorem hD_leq : ∀ q ∈ D_leq, decode jdk_43_method_13_code q.1 = .ok q.2 := by decide +kernel
set_option maxRecDepth 65536 in
set_option maxHeartbeats 4000000 in
theorem c_leq (l : Launch) (Z : State) (a0 : Array Value) (hw : ∀ d ∈ tables_1, d.before a0 Z = true) (hEL : EW Z a0 []) (hJS : JS Z) (hJA : JA Z) (c0 c1 c2 c3 : Addr) (hCT : CT Z c0 c1 c2 c3) {x y : Addr} {us vs : List Int32} {h : Heap} (F : Ary Z h x .byte us) (G : Ary Z h y .byte vs) : Ctr l Z [] (⟨"java/lang/StringLatin1", "equals", "([B[B)Z"⟩ : MethodName) jdk_43_method_13_code 3 (some .boolean) [] ({ frames := 0, cells := 0, slots := 0, locals := 0 } : Room) [] #[(.ref x), (.ref y)] h (fun v h' S => h = h' ∧ v = some (.int (if us = vs then 1 else 0))) := by
  refine enter (a0 := a0) (by first | (simp [plainName, overriddenIn]; done) | decide +kernel) hEL (Ls := #[.val (.ref x), .val (.ref y), .unset]) (fun m => by first | (simp [entryFrame, mkF, argsToLocals, Value.category]; done) | rfl) ?_
  intro κ vm T hby hs w Sf
  have dc := Dec.of hby hD_leq
  show Go κ (GQ κ Z [] ({ frames := 0, cells := 0, slots := 0, locals := 0 } : Room) (fun v h' S => h = h' ∧ v = some (.int (if us = vs then 1 else 0)))) T 0 #[.val (.ref x), .val (.ref y), .unset] []
  have hN := F.small
  have hM := G.small
  refine blk (pc' := 1) (Ls' := #[.val (.ref x), .val (.ref y), .unset]) (st' := [(.ref x)]) [oAloadN w.ok (dc.g 0 rfl)] rfl ?_
  refine w.len F (dc.g 1 rfl) ?_
  show Go κ _ T 2 #[.val (.ref x), .val (.ref y), .unset] [(.int (Int32.ofNat us.length))]
  refine blk (pc' := 3) (Ls' := #[.val (.ref x), .val (.ref y), .unset]) (st' := [(.ref y), (.int (Int32.ofNat us.length))]) [oAloadN w.ok (dc.g 2 rfl)] rfl ?_
  refine w.len G (dc.g 3 rfl) ?_
  show Go κ _ T 4 #[.val (.ref x), .val (.ref y), .unset] [(.int (Int32.ofNat vs.length)), (.int (Int32.ofNat us.length))]
  refine cNe (pc' := 34) w.ok (dc.g 4 rfl) (by decide) (by decide) (fun hc115 => ?_) (fun hc115 => ?_)
  · show Go κ _ T 34 #[.val (.ref x), .val (.ref y), .unset] []
    refine blk (pc' := 35) (Ls' := #[.val (.ref x), .val (.ref y), .unset]) (st' := [(.int (0 : Int32))]) [oIconst w.ok (dc.g 24 rfl)] rfl ?_
    exact w.retI (t := .boolean) rfl (Or.inr (Or.inl rfl)) rfl (dc.g 25 rfl) (by decide) (by decide) (fun S hS => ⟨rfl, by rw [if_neg (fun q => hc115 (by rw [q]))]⟩)
  · show Go κ _ T 7 #[.val (.ref x), .val (.ref y), .unset] []
    have el : us.length = vs.length := (ofNat_inj hN hM).mp hc115
    have key : ∀ (f i : Nat), i + f = us.length → us.take i = vs.take i → Go κ (GQ κ Z [] ({ frames := 0, cells := 0, slots := 0, locals := 0 } : Room) (fun v h' S => h = h' ∧ v = some (.int (if us = vs then 1 else 0)))) T 9 #[.val (.ref x), .val (.ref y), .val (.int (Int32.ofNat i))] [] := by
      intro f
      induction f with
      | zero =>
        intro i hi ht
        refine blk (pc' := 11) (Ls' := #[.val (.ref x), .val (.ref y), .val (.int (Int32.ofNat i))]) (st' := [(.ref x), (.int (Int32.ofNat i))]) [oIloadN w.ok (dc.g 7 rfl), oAloadN w.ok (dc.g 8 rfl)] rfl ?_
        refine w.len F (dc.g 9 rfl) ?_
        show Go κ _ T 12 #[.val (.ref x), .val (.ref y), .val (.int (Int32.ofNat i))] [(.int (Int32.ofNat us.length)), (.int (Int32.ofNat i))]
        refine cGe (pc' := 32) w.ok (dc.g 10 rfl) (by decide) (by decide) (fun hc116 => ?_) (fun hc116 => absurd hc116 (fun q => absurd q (by rw [ofNat_lt (by omega) hN]; omega)))
        show Go κ _ T 32 #[.val (.ref x), .val (.ref y), .val (.int (Int32.ofNat i))] []
        refine blk (pc' := 33) (Ls' := #[.val (.ref x), .val (.ref y), .val (.int (Int32.ofNat i))]) (st' := [(.int (1 : Int32))]) [oIconst w.ok (dc.g 22 rfl)] rfl ?_
        exact w.retI (t := .boolean) rfl (Or.inr (Or.inl rfl)) rfl (dc.g 23 rfl) (by decide) (by decide) (fun S hS => ⟨rfl, by rw [if_pos (by rw [List.take_of_length_le (by omega), List.take_of_length_le (by omega)] at ht; exact ht)]⟩)
      | succ f ih =>
        intro i hi ht
        obtain ⟨c, hc⟩ : ∃ c, us[i]? = some c := ⟨_, List.getElem?_eq_getElem (by omega)⟩
        obtain ⟨e, he⟩ : ∃ e, vs[i]? = some e := ⟨_, List.getElem?_eq_getElem (by omega)⟩
        refine blk (pc' := 11) (Ls' := #[.val (.ref x), .val (.ref y), .val (.int (Int32.ofNat i))]) (st' := [(.ref x), (.int (Int32.ofNat i))]) [oIloadN w.ok (dc.g 7 rfl), oAloadN w.ok (dc.g 8 rfl)] rfl ?_
        refine w.len F (dc.g 9 rfl) ?_
        show Go κ _ T 12 #[.val (.ref x), .val (.ref y), .val (.int (Int32.ofNat i))] [(.int (Int32.ofNat us.length)), (.int (Int32.ofNat i))]
        refine cGe (pc' := 32) w.ok (dc.g 10 rfl) (by decide) (by decide) (fun hc117 => absurd ((ofNat_lt (by omega) hN).mpr (by omega)) hc117) (fun hc117 => ?_)
        show Go κ _ T 15 #[.val (.ref x), .val (.ref y), .val (.int (Int32.ofNat i))] []
        refine blk (pc' := 17) (Ls' := #[.val (.ref x), .val (.ref y), .val (.int (Int32.ofNat i))]) (st' := [(.int (Int32.ofNat i)), (.ref x)]) [oAloadN w.ok (dc.g 11 rfl), oIloadN w.ok (dc.g 12 rfl)] rfl ?_
        refine w.bld F (i := i) rfl hc (dc.g 13 rfl) ?_
        show Go κ _ T 18 #[.val (.ref x), .val (.ref y), .val (.int (Int32.ofNat i))] [(.int c)]
        refine blk (pc' := 20) (Ls' := #[.val (.ref x), .val (.ref y), .val (.int (Int32.ofNat i))]) (st' := [(.int (Int32.ofNat i)), (.ref y), (.int c)]) [oAloadN w.ok (dc.g 14 rfl), oIloadN w.ok (dc.g 15 rfl)] rfl ?_
        refine w.bld G (i := i) rfl he (dc.g 16 rfl) ?_
        show Go κ _ T 21 #[.val (.ref x), .val (.ref y), .val (.int (Int32.ofNat i))] [(.int e), (.int c)]
        refine cEq (pc' := 26) w.ok (dc.g 17 rfl) (by decide) (by decide) (fun hc118 => ?_) (fun hc118 => ?_)
        · show Go κ _ T 26 #[.val (.ref x), .val (.ref y), .val (.int (Int32.ofNat i))] []
          refine blk (pc' := 9) (Ls' := #[.val (.ref x), .val (.ref y), .val (.int ((Int32.ofNat i) + (1 : Int32)))]) (st' := []) [oIinc w.ok (dc.g 20 rfl), oGoto w.ok 9 (dc.g 21 rfl)] rfl ?_
          rw [ofNat_succ]
          exact ih (i + 1) (by omega) (by rw [take_succ hc, take_succ he, ht, hc118])
        · show Go κ _ T 24 #[.val (.ref x), .val (.ref y), .val (.int (Int32.ofNat i))] []
          refine blk (pc' := 25) (Ls' := #[.val (.ref x), .val (.ref y), .val (.int (Int32.ofNat i))]) (st' := [(.int (0 : Int32))]) [oIconst w.ok (dc.g 18 rfl)] rfl ?_
          exact w.retI (t := .boolean) rfl (Or.inr (Or.inl rfl)) rfl (dc.g 19 rfl) (by decide) (by decide) (fun S hS => ⟨rfl, by rw [if_neg (fun q => hc118 (by rw [q, he] at hc; exact (Option.some.inj hc).symm))]⟩)
    refine blk (pc' := 9) (Ls' := #[.val (.ref x), .val (.ref y), .val (.int (0 : Int32))]) (st' := []) [oIconst w.ok (dc.g 5 rfl), oIstoreN w.ok (dc.g 6 rfl)] rfl ?_
    exact key us.length 0 (by omega) rfl
def D_eqs : List (Nat × Instr × Nat) := [(0, .aload_n 0, 1), (1, .aload_n 1, 1), (2, .if_acmp .ne 5, 3), (5, .iconst 1, 1), (6, .ireturn, 1), (7, .aload_n 1, 1), (8, .instanceof 10, 3), (11, .ifCond .eq 43, 3), (14, .aload_n 1, 1), (15, .checkcast 10, 3), (18, .astore_n 2, 1), (19, .getstatic 38, 3), (22, .ifCond .eq 14, 3), (25, .aload_n 0, 1), (26, .getfield 15, 3), (29, .aload_n 2, 1), (30, .getfield 15, 3), (33, .if_icmp .ne 21, 3), (36, .aload_n 0, 1), (37, .getfield 9, 3), (40, .aload_n 2, 1), (41, .getfield 9, 3), (44, .invokestatic 541, 3), (47, .ifCond .eq 7, 3), (50, .iconst 1, 1), (51, .goto 4, 3), (54, .iconst 0, 1), (55, .ireturn, 1)]
theorem hD_eqs : ∀ q ∈ D_eqs, decode jdk_42_method_66_code q.1 = .ok q.2 := by decide +kernel
set_option maxRecDepth 65536 in
set_option maxHeartbeats 4000000 in
theorem c_eqs (l : Launch) (Z : State) (a0 : Array Value) (hw : ∀ d ∈ tables_1, d.before a0 Z = true) (hEL : EW Z a0 []) (hJS : JS Z) (hJA : JA Z) (c0 c1 c2 c3 : Addr) (hCT : CT Z c0 c1 c2 c3) {x y : Addr} {cs ds : List Int32} {h : Heap} (oz : Ext Z.heap h) (F : Str Z h x cs) (G : Str Z h y ds) (hL : IsL cs) (hM : IsL ds) : Ctr l Z [] (⟨"java/lang/String", "equals", "(Ljava/lang/Object;)Z"⟩ : MethodName) jdk_42_method_66_code 3 (some .boolean) [] ({ frames := 1, cells := 0, slots := 0, locals := 14 } : Room) [] #[(.ref x), (.ref y)] h (fun v h' S => h = h' ∧ v = some (.int (if cs = ds then 1 else 0))) := by
  refine enter (a0 := a0) (by first | (simp [plainName, overriddenIn]; done) | decide +kernel) hEL (Ls := #[.val (.ref x), .val (.ref y), .unset]) (fun m => by first | (simp [entryFrame, mkF, argsToLocals, Value.category]; done) | rfl) ?_
  intro κ vm T hby hs w Sf
  have dc := Dec.of hby hD_eqs
  show Go κ (GQ κ Z [] ({ frames := 1, cells := 0, slots := 0, locals := 14 } : Room) (fun v h' S => h = h' ∧ v = some (.int (if cs = ds then 1 else 0)))) T 0 #[.val (.ref x), .val (.ref y), .unset] []
  have ozs : Ext Z.heap κ.s.heap := by rw [hs]; exact oz
  obtain ⟨⟨zc, hcs, hcz⟩, -⟩ := id hJS
  obtain ⟨u, f1, f2, f3⟩ := F.lat hL
  obtain ⟨t, g1, g2, g3⟩ := G.lat hM
  refine blk (pc' := 2) (Ls' := #[.val (.ref x), .val (.ref y), .unset]) (st' := [(.ref y), (.ref x)]) [oAloadN w.ok (dc.g 0 rfl), oAloadN w.ok (dc.g 1 rfl)] rfl ?_
  refine w.acmp (pc' := 7) (dc.g 2 rfl) (by decide) (by decide) (fun hc119 => ?_) (fun hc119 => ?_)
  · show Go κ _ T 7 #[.val (.ref x), .val (.ref y), .unset] []
    refine blk (pc' := 8) (Ls' := #[.val (.ref x), .val (.ref y), .unset]) (st' := [(.ref y)]) [oAloadN w.ok (dc.g 5 rfl)] rfl ?_
    refine w.instY (wd hw 137 rfl) (Ins.self G.exa) (dc.g 6 rfl) ?_
    intro T120 w121
    show Go κ _ T120 11 #[.val (.ref x), .val (.ref y), .unset] [(.int (1 : Int32))]
    refine zEq (pc' := 54) w121.ok (dc.g 7 rfl) (by decide) (by decide) (fun hc122 => absurd hc122 (by decide)) (fun hc122 => ?_)
    show Go κ _ T120 14 #[.val (.ref x), .val (.ref y), .unset] []
    refine blk (pc' := 15) (Ls' := #[.val (.ref x), .val (.ref y), .unset]) (st' := [(.ref y)]) [oAloadN w121.ok (dc.g 8 rfl)] rfl ?_
    refine w121.castY (wd hw 137 rfl) (Ins.self G.exa) (dc.g 9 rfl) ?_
    intro T123 w124
    show Go κ _ T123 18 #[.val (.ref x), .val (.ref y), .unset] [(.ref y)]
    refine blk (pc' := 19) (Ls' := #[.val (.ref x), .val (.ref y), .val (.ref y)]) (st' := []) [oAstoreN w124.ok (dc.g 10 rfl)] rfl ?_
    refine w124.gets (wd hw 35 rfl) (hcs.ext (w124.old ozs)) (dc.g 11 rfl) ?_
    intro T125 w126
    show Go κ _ T125 22 #[.val (.ref x), .val (.ref y), .val (.ref y)] [(.int zc)]
    refine zEq (pc' := 36) w126.ok (dc.g 12 rfl) (by decide) (by decide) (fun hc127 => absurd hc127 hcz) (fun hc127 => ?_)
    show Go κ _ T125 25 #[.val (.ref x), .val (.ref y), .val (.ref y)] []
    refine blk (pc' := 26) (Ls' := #[.val (.ref x), .val (.ref y), .val (.ref y)]) (st' := [(.ref x)]) [oAloadN w126.ok (dc.g 13 rfl)] rfl ?_
    refine w126.get (wd hw 47 rfl) f2 (dc.g 14 rfl) ?_
    intro T128 w129
    show Go κ _ T128 29 #[.val (.ref x), .val (.ref y), .val (.ref y)] [(.int (0 : Int32))]
    refine blk (pc' := 30) (Ls' := #[.val (.ref x), .val (.ref y), .val (.ref y)]) (st' := [(.ref y), (.int (0 : Int32))]) [oAloadN w129.ok (dc.g 15 rfl)] rfl ?_
    refine w129.get (wd hw 47 rfl) g2 (dc.g 16 rfl) ?_
    intro T130 w131
    show Go κ _ T130 33 #[.val (.ref x), .val (.ref y), .val (.ref y)] [(.int (0 : Int32)), (.int (0 : Int32))]
    refine cNe (pc' := 54) w131.ok (dc.g 17 rfl) (by decide) (by decide) (fun hc132 => absurd rfl hc132) (fun hc132 => ?_)
    show Go κ _ T130 36 #[.val (.ref x), .val (.ref y), .val (.ref y)] []
    refine blk (pc' := 37) (Ls' := #[.val (.ref x), .val (.ref y), .val (.ref y)]) (st' := [(.ref x)]) [oAloadN w131.ok (dc.g 18 rfl)] rfl ?_
    refine w131.get (wd hw 49 rfl) f1 (dc.g 19 rfl) ?_
    intro T133 w134
    show Go κ _ T133 40 #[.val (.ref x), .val (.ref y), .val (.ref y)] [(.ref u)]
    refine blk (pc' := 41) (Ls' := #[.val (.ref x), .val (.ref y), .val (.ref y)]) (st' := [(.ref y), (.ref u)]) [oAloadN w134.ok (dc.g 20 rfl)] rfl ?_
    refine w134.get (wd hw 49 rfl) g1 (dc.g 21 rfl) ?_
    intro T135 w136
    show Go κ _ T135 44 #[.val (.ref x), .val (.ref y), .val (.ref y)] [(.ref t), (.ref u)]
    refine w136.callS (wd hw 138 rfl) (wd hw 139 rfl) (wd hw 91 rfl) (wd hw 140 rfl) (by decide) (argsL := [(.ref u), (.ref t)]) (Wd := 0) (Ctr.pays (len := 3) (Wd := 0) (c_leq l Z a0 hw hEL hJS hJA c0 c1 c2 c3 hCT f3 g3) w136 (wd hw 140 rfl) (wd hw 91 rfl) hEL (by decide) (by decide) sfNil) pd8 rfl (st := []) rfl rfl (Nat.le_of_eq rfl) (dc.g 22 rfl) (by decide) (by decide) ?_
    intro vm137 T138 h139 v140 w141 C142 Q143
    obtain ⟨e2, rfl⟩ := Q143
    subst e2
    show Go κ _ T138 47 #[.val (.ref x), .val (.ref y), .val (.ref y)] [(.int (if cs.map lo8 = ds.map lo8 then (1 : Int32) else 0))]
    by_cases hq : cs = ds
    · subst hq
      refine Go.top (y := (1 : Int32)) (if_pos rfl) ?_
      show Go κ _ T138 47 #[.val (.ref x), .val (.ref y), .val (.ref y)] [(.int (1 : Int32))]
      refine zEq (pc' := 54) w141.ok (dc.g 23 rfl) (by decide) (by decide) (fun hc144 => absurd hc144 (by decide)) (fun hc144 => ?_)
      show Go κ _ T138 50 #[.val (.ref x), .val (.ref y), .val (.ref y)] []
      refine blk (pc' := 55) (Ls' := #[.val (.ref x), .val (.ref y), .val (.ref y)]) (st' := [(.int (1 : Int32))]) [oIconst w141.ok (dc.g 24 rfl), oGoto w141.ok 55 (dc.g 25 rfl)] rfl ?_
      exact w141.retI (t := .boolean) rfl (Or.inr (Or.inl rfl)) rfl (dc.g 27 rfl) (by decide) (by decide) (fun S hS => ⟨rfl, by rw [if_pos rfl]⟩)
    · refine Go.top (y := (0 : Int32)) (if_neg (fun q => hq (lo8_list hL hM q))) ?_
      show Go κ _ T138 47 #[.val (.ref x), .val (.ref y), .val (.ref y)] [(.int (0 : Int32))]
      refine zEq (pc' := 54) w141.ok (dc.g 23 rfl) (by decide) (by decide) (fun hc145 => ?_) (fun hc145 => absurd rfl hc145)
      show Go κ _ T138 54 #[.val (.ref x), .val (.ref y), .val (.ref y)] []
      refine blk (pc' := 55) (Ls' := #[.val (.ref x), .val (.ref y), .val (.ref y)]) (st' := [(.int (0 : Int32))]) [oIconst w141.ok (dc.g 26 rfl)] rfl ?_
      exact w141.retI (t := .boolean) rfl (Or.inr (Or.inl rfl)) rfl (dc.g 27 rfl) (by decide) (by decide) (fun S hS => ⟨rfl, by rw [if_neg hq]⟩)
  · show Go κ _ T 5 #[.val (.ref x), .val (.ref y), .unset] []
    subst hc119
    show Go κ _ T 5 #[.val (.ref x), .val (.ref x), .unset] []
    refine blk (pc' := 6) (Ls' := #[.val (.ref x), .val (.ref x), .unset]) (st' := [(.int (1 : Int32))]) [oIconst w.ok (dc.g 3 rfl)] rfl ?_
    exact w.retI (t := .boolean) rfl (Or.inr (Or.inl rfl)) rfl (dc.g 4 rfl) (by decide) (by decide) (fun S hS => ⟨rfl, by rw [if_pos (F.inj G hL hM)]⟩)
def D_iow : List (Nat × Instr × Nat) := [(0, .aload_n 0, 1), (1, .invokevirtual 492, 3), (4, .ifCond .eq 13, 3), (7, .aload_n 0, 1), (8, .getfield 9, 3), (11, .invokestatic 924, 3), (14, .goto 10, 3), (17, .aload_n 0, 1), (18, .getfield 9, 3), (21, .invokestatic 926, 3), (24, .ireturn, 1)]
theorem hD_iow : ∀ q ∈ D_iow, decode jdk_42_method_120_code q.1 = .ok q.2 := by decide +kernel
set_option maxRecDepth 65536 in
set_option maxHeartbeats 4000000 in
theorem c_iow (l : Launch) (Z : State) (a0 : Array Value) (hw : ∀ d ∈ tables_1, d.before a0 Z = true) (hEL : EW Z a0 []) (hJS : JS Z) (hJA : JA Z) (c0 c1 c2 c3 : Addr) (hCT : CT Z c0 c1 c2 c3) {a : Addr} {cs : List Int32} {h : Heap} (oz : Ext Z.heap h) (F : Str Z h a cs) (hL : IsL cs) : Ctr l Z [] (⟨"java/lang/String", "indexOfNonWhitespace", "()I"⟩ : MethodName) jdk_42_method_120_code 1 (some .int) [] ({ frames := 3, cells := 0, slots := 0, locals := 44 } : Room) [] #[(.ref a)] h (fun v h' S => h = h' ∧ ∃ r, r ≤ cs.length ∧ v = some (.int (Int32.ofNat r)) ∧ (r = cs.length → cs.all wsI = true)) := by
  refine enter (a0 := a0) (by first | (simp [plainName, overriddenIn]; done) | decide +kernel) hEL (Ls := #[.val (.ref a)]) (fun m => by first | (simp [entryFrame, mkF, argsToLocals, Value.category]; done) | rfl) ?_
  intro κ vm T hby hs w Sf
  have dc := Dec.of hby hD_iow
  show Go κ (GQ κ Z [] ({ frames := 3, cells := 0, slots := 0, locals := 44 } : Room) (fun v h' S => h = h' ∧ ∃ r, r ≤ cs.length ∧ v = some (.int (Int32.ofNat r)) ∧ (r = cs.length → cs.all wsI = true))) T 0 #[.val (.ref a)] []
  have ozs : Ext Z.heap κ.s.heap := by rw [hs]; exact oz
  obtain ⟨u, f1, f2, f3⟩ := F.lat hL
  refine blk (pc' := 1) (Ls' := #[.val (.ref a)]) (st' := [(.ref a)]) [oAloadN w.ok (dc.g 0 rfl)] rfl ?_
  refine w.callV (wd hw 84 rfl) (wd hw 85 rfl) (notFace (wd hw 87 rfl)) (wd hw 87 rfl) (wd hw 86 rfl) (by decide) (a := a) F.exa (argsL := []) (Wd := 0) (Ctr.pays (len := 3) (Wd := 0) (c_isl l Z a0 hw hEL hJS hJA c0 c1 c2 c3 hCT (w.old ozs) f2) w (wd hw 88 rfl) (wd hw 23 rfl) hEL (by decide) (by decide) sfNil) pd9 rfl (st := []) rfl rfl (Nat.le_of_eq rfl) (dc.g 1 rfl) (by decide) (by decide) ?_
  intro vm146 T147 h148 v149 w150 C151 Q152
  obtain ⟨eQ152, rfl⟩ := Q152
  subst eQ152
  show Go κ _ T147 4 #[.val (.ref a)] [(.int (if (0 : Int32) = 0 then (1 : Int32) else 0))]
  refine Go.top (y := (1 : Int32)) (if_pos rfl) ?_
  show Go κ _ T147 4 #[.val (.ref a)] [(.int (1 : Int32))]
  refine zEq (pc' := 17) w150.ok (dc.g 2 rfl) (by decide) (by decide) (fun hc153 => absurd hc153 (by decide)) (fun hc153 => ?_)
  show Go κ _ T147 7 #[.val (.ref a)] []
  refine blk (pc' := 8) (Ls' := #[.val (.ref a)]) (st' := [(.ref a)]) [oAloadN w150.ok (dc.g 3 rfl)] rfl ?_
  refine w150.get (wd hw 49 rfl) f1 (dc.g 4 rfl) ?_
  intro T154 w155
  show Go κ _ T154 11 #[.val (.ref a)] [(.ref u)]
  refine w155.callS (wd hw 89 rfl) (wd hw 90 rfl) (wd hw 91 rfl) (wd hw 92 rfl) (by decide) (argsL := [(.ref u)]) (Wd := 0) (Ctr.pays (len := 3) (Wd := 0) (c_liow l Z a0 hw hEL hJS hJA c0 c1 c2 c3 hCT (w155.old ozs) f3 hL) w155 (wd hw 92 rfl) (wd hw 91 rfl) hEL (by decide) (by decide) sfNil) pd10 rfl (st := []) rfl rfl (Nat.le_of_eq rfl) (dc.g 5 rfl) (by decide) (by decide) ?_
  intro vm156 T157 h158 v159 w160 C161 Q162
  obtain ⟨e2, r, hr, rfl, hq⟩ := Q162
  subst e2
  show Go κ _ T157 14 #[.val (.ref a)] [(.int (Int32.ofNat r))]
  refine blk (pc' := 24) (Ls' := #[.val (.ref a)]) (st' := [(.int (Int32.ofNat r))]) [oGoto w160.ok 24 (dc.g 6 rfl)] rfl ?_
  exact w160.retI (t := .int) rfl (Or.inl rfl) rfl (dc.g 10 rfl) (by decide) (by decide) (fun S hS => ⟨rfl, r, hr, rfl, hq⟩)
def D_isb : List (Nat × Instr × Nat) := [(0, .aload_n 0, 1), (1, .invokevirtual 876, 3), (4, .aload_n 0, 1), (5, .invokevirtual 505, 3), (8, .if_icmp .ne 7, 3), (11, .iconst 1, 1), (12, .goto 4, 3), (15, .iconst 0, 1), (16, .ireturn, 1)]
theorem hD_isb : ∀ q ∈ D_isb, decode jdk_42_method_117_code q.1 = .ok q.2 := by decide +kernel
set_option maxRecDepth 65536 in
set_option maxHeartbeats 4000000 in
theorem c_isb (l : Launch) (Z : State) (a0 : Array Value) (hw : ∀ d ∈ tables_1, d.before a0 Z = true) (hEL : EW Z a0 []) (hJS : JS Z) (hJA : JA Z) (c0 c1 c2 c3 : Addr) (hCT : CT Z c0 c1 c2 c3) {a : Addr} {cs : List Int32} {h : Heap} (oz : Ext Z.heap h) (F : Str Z h a cs) (hL : IsL cs) (hb : ¬ cs.all wsI = true) : Ctr l Z [] (⟨"java/lang/String", "isBlank", "()Z"⟩ : MethodName) jdk_42_method_117_code 1 (some .boolean) [] ({ frames := 4, cells := 0, slots := 0, locals := 57 } : Room) [] #[(.ref a)] h (fun v h' S => h = h' ∧ v = some (.int 0)) := by
  refine enter (a0 := a0) (by first | (simp [plainName, overriddenIn]; done) | decide +kernel) hEL (Ls := #[.val (.ref a)]) (fun m => by first | (simp [entryFrame, mkF, argsToLocals, Value.category]; done) | rfl) ?_
  intro κ vm T hby hs w Sf
  have dc := Dec.of hby hD_isb
  show Go κ (GQ κ Z [] ({ frames := 4, cells := 0, slots := 0, locals := 57 } : Room) (fun v h' S => h = h' ∧ v = some (.int 0))) T 0 #[.val (.ref a)] []
  have ozs : Ext Z.heap κ.s.heap := by rw [hs]; exact oz
  have hl := F.len_lt
  refine blk (pc' := 1) (Ls' := #[.val (.ref a)]) (st' := [(.ref a)]) [oAloadN w.ok (dc.g 0 rfl)] rfl ?_
  refine w.callP (wd hw 79 rfl) (wd hw 80 rfl) (notFace (wd hw 82 rfl)) (wd hw 81 rfl) (wd hw 83 rfl) (by decide) (a := a) F.exa (argsL := []) (Wd := 0) (Ctr.pays (len := 3) (Wd := 0) (c_iow l Z a0 hw hEL hJS hJA c0 c1 c2 c3 hCT (w.old ozs) F hL) w (wd hw 83 rfl) (wd hw 23 rfl) hEL (by decide) (by decide) sfNil) pd11 rfl (st := []) rfl rfl (Nat.le_of_eq rfl) (dc.g 1 rfl) (by decide) (by decide) ?_
  intro vm163 T164 h165 v166 w167 C168 Q169
  obtain ⟨e2, r, hr, rfl, hq⟩ := Q169
  subst e2
  show Go κ _ T164 4 #[.val (.ref a)] [(.int (Int32.ofNat r))]
  refine blk (pc' := 5) (Ls' := #[.val (.ref a)]) (st' := [(.ref a), (.int (Int32.ofNat r))]) [oAloadN w167.ok (dc.g 2 rfl)] rfl ?_
  refine w167.callV (wd hw 109 rfl) (wd hw 110 rfl) (notFace (wd hw 112 rfl)) (wd hw 112 rfl) (wd hw 111 rfl) (by decide) (a := a) F.exa (argsL := []) (Wd := 1) (Ctr.pays (len := 3) (Wd := 1) (c_len l Z a0 hw hEL hJS hJA c0 c1 c2 c3 hCT (w167.old ozs) F) w167 (wd hw 113 rfl) (wd hw 23 rfl) hEL (by decide) (by decide) sfNil) pd11 rfl (st := [(.int (Int32.ofNat r))]) rfl rfl (Nat.le_of_eq rfl) (dc.g 3 rfl) (by decide) (by decide) ?_
  intro vm170 T171 h172 v173 w174 C175 Q176
  obtain ⟨eQ176, rfl⟩ := Q176
  subst eQ176
  show Go κ _ T171 8 #[.val (.ref a)] [(.int (Int32.ofNat cs.length)), (.int (Int32.ofNat r))]
  refine cNe (pc' := 15) w174.ok (dc.g 4 rfl) (by decide) (by decide) (fun hc177 => ?_) (fun hc177 => absurd hc177 (fun q => hb (hq ((ofNat_inj (by omega) (by omega)).mp q))))
  show Go κ _ T171 15 #[.val (.ref a)] []
  refine blk (pc' := 16) (Ls' := #[.val (.ref a)]) (st' := [(.int (0 : Int32))]) [oIconst w174.ok (dc.g 7 rfl)] rfl ?_
  exact w174.retI (t := .boolean) rfl (Or.inr (Or.inl rfl)) rfl (dc.g 8 rfl) (by decide) (by decide) (fun S hS => ⟨rfl, rfl⟩)
def D_rnb : List (Nat × Instr × Nat) := [(0, .aload_n 1, 1), (1, .invokevirtual 7, 3), (4, .ifCond .eq 14, 3), (7, .new 13, 3), (10, .dup, 1), (11, .aload_n 0, 1), (12, .ldc 15, 2), (14, .invokespecial 17, 3), (17, .athrow, 1), (18, .aload_n 1, 1), (19, .areturn, 1)]
theorem hD_rnb : ∀ q ∈ D_rnb, decode prog_16_method_2_code q.1 = .ok q.2 := by decide +kernel
set_option maxRecDepth 65536 in
set_option maxHeartbeats 4000000 in
theorem c_rnb (l : Launch) (Z : State) (a0 : Array Value) (hw : ∀ d ∈ tables_1, d.before a0 Z = true) (hEL : EW Z a0 []) (hJS : JS Z) (hJA : JA Z) (c0 c1 c2 c3 : Addr) (hCT : CT Z c0 c1 c2 c3) {n a : Addr} {cs : List Int32} {h : Heap} (oz : Ext Z.heap h) (F : Str Z h a cs) (hL : IsL cs) (hb : ¬ cs.all wsI = true) : Ctr l Z [] (⟨"com/example/faturista/faturista/engine/FieldChecks", "requireNotBlank", "(Ljava/lang/String;Ljava/lang/String;)Ljava/lang/String;"⟩ : MethodName) prog_16_method_2_code 2 (some (.object "java/lang/String")) [] ({ frames := 5, cells := 0, slots := 0, locals := 69 } : Room) [] #[(.ref n), (.ref a)] h (fun v h' S => h = h' ∧ v = some (.ref a)) := by
  refine enter (a0 := a0) (by first | (simp [plainName, overriddenIn]; done) | decide +kernel) hEL (Ls := #[.val (.ref n), .val (.ref a)]) (fun m => by first | (simp [entryFrame, mkF, argsToLocals, Value.category]; done) | rfl) ?_
  intro κ vm T hby hs w Sf
  have dc := Dec.of hby hD_rnb
  show Go κ (GQ κ Z [] ({ frames := 5, cells := 0, slots := 0, locals := 69 } : Room) (fun v h' S => h = h' ∧ v = some (.ref a))) T 0 #[.val (.ref n), .val (.ref a)] []
  have ozs : Ext Z.heap κ.s.heap := by rw [hs]; exact oz
  refine blk (pc' := 1) (Ls' := #[.val (.ref n), .val (.ref a)]) (st' := [(.ref a)]) [oAloadN w.ok (dc.g 0 rfl)] rfl ?_
  refine w.callV (wd hw 74 rfl) (wd hw 75 rfl) (notFace (wd hw 77 rfl)) (wd hw 77 rfl) (wd hw 76 rfl) (by decide) (a := a) F.exa (argsL := []) (Wd := 0) (Ctr.pays (len := 3) (Wd := 0) (c_isb l Z a0 hw hEL hJS hJA c0 c1 c2 c3 hCT (w.old ozs) F hL hb) w (wd hw 78 rfl) (wd hw 23 rfl) hEL (by decide) (by decide) sfNil) pd9 rfl (st := []) rfl rfl (Nat.le_of_eq rfl) (dc.g 1 rfl) (by decide) (by decide) ?_
  intro vm178 T179 h180 v181 w182 C183 Q184
  obtain ⟨eQ184, rfl⟩ := Q184
  subst eQ184
  show Go κ _ T179 4 #[.val (.ref n), .val (.ref a)] [(.int (0 : Int32))]
  refine zEq (pc' := 18) w182.ok (dc.g 2 rfl) (by decide) (by decide) (fun hc185 => ?_) (fun hc185 => absurd rfl hc185)
  show Go κ _ T179 18 #[.val (.ref n), .val (.ref a)] []
  refine blk (pc' := 19) (Ls' := #[.val (.ref n), .val (.ref a)]) (st' := [(.ref a)]) [oAloadN w182.ok (dc.g 9 rfl)] rfl ?_
  exact w182.retA rfl rfl rfl rfl (dc.g 10 rfl) (by decide) (by decide) (fun S hS => ⟨rfl, rfl⟩)
def D_rnn : List (Nat × Instr × Nat) := [(0, .aload_n 0, 1), (1, .ifnonnull 12, 3), (4, .new 84, 3), (7, .dup, 1), (8, .aload_n 1, 1), (9, .invokespecial 87, 3), (12, .athrow, 1), (13, .aload_n 0, 1), (14, .areturn, 1)]
theorem hD_rnn : ∀ q ∈ D_rnn, decode jdk_31_method_11_code q.1 = .ok q.2 := by decide +kernel
set_option maxRecDepth 65536 in
set_option maxHeartbeats 4000000 in
theorem c_rnn (l : Launch) (Z : State) (a0 : Array Value) (hw : ∀ d ∈ tables_1, d.before a0 Z = true) (hEL : EW Z a0 []) (hJS : JS Z) (hJA : JA Z) (c0 c1 c2 c3 : Addr) (hCT : CT Z c0 c1 c2 c3) {t n : Addr} {h : Heap} : Ctr l Z [] (⟨"java/util/Objects", "requireNonNull", "(Ljava/lang/Object;Ljava/lang/String;)Ljava/lang/Object;"⟩ : MethodName) jdk_31_method_11_code 2 (some (.object "java/lang/Object")) [] ({ frames := 0, cells := 0, slots := 0, locals := 0 } : Room) [] #[(.ref t), (.ref n)] h (fun v h' S => h = h' ∧ v = some (.ref t)) := by
  refine enter (a0 := a0) (by first | (simp [plainName, overriddenIn]; done) | decide +kernel) hEL (Ls := #[.val (.ref t), .val (.ref n)]) (fun m => by first | (simp [entryFrame, mkF, argsToLocals, Value.category]; done) | rfl) ?_
  intro κ vm T hby hs w Sf
  have dc := Dec.of hby hD_rnn
  show Go κ (GQ κ Z [] ({ frames := 0, cells := 0, slots := 0, locals := 0 } : Room) (fun v h' S => h = h' ∧ v = some (.ref t))) T 0 #[.val (.ref t), .val (.ref n)] []
  refine blk (pc' := 1) (Ls' := #[.val (.ref t), .val (.ref n)]) (st' := [(.ref t)]) [oAloadN w.ok (dc.g 0 rfl)] rfl ?_
  refine nnRef (pc' := 13) w.ok (dc.g 1 rfl) (by decide) (by decide) ?_
  show Go κ _ T 13 #[.val (.ref t), .val (.ref n)] []
  refine blk (pc' := 14) (Ls' := #[.val (.ref t), .val (.ref n)]) (st' := [(.ref t)]) [oAloadN w.ok (dc.g 7 rfl)] rfl ?_
  exact w.retA rfl rfl rfl rfl (dc.g 8 rfl) (by decide) (by decide) (fun S hS => ⟨rfl, rfl⟩)
def D_bl : List (Nat × Instr × Nat) := [(0, .aload_n 0, 1), (1, .invokespecial 1, 3), (4, .aload_n 0, 1), (5, .aload_n 1, 1), (6, .ldc 7, 2), (8, .invokestatic 9, 3), (11, .checkcast 15, 3), (14, .putfield 17, 3), (17, .aload_n 0, 1), (18, .ldc 22, 2), (20, .aload_n 2, 1), (21, .invokestatic 24, 3), (24, .putfield 30, 3), (27, .return_, 1)]
theorem hD_bl : ∀ q ∈ D_bl, decode prog_79_method_1_code q.1 = .ok q.2 := by decide +kernel
set_option maxRecDepth 65536 in
set_option maxHeartbeats 4000000 in
theorem c_bl (l : Launch) (Z : State) (a0 : Array Value) (hw : ∀ d ∈ tables_1, d.before a0 Z = true) (hEL : EW Z a0 []) (hJS : JS Z) (hJA : JA Z) (c0 c1 c2 c3 : Addr) (hCT : CT Z c0 c1 c2 c3) {a t u : Addr} {cs : List Int32} {h : Heap} (oz : Ext Z.heap h) (ha : Z.heap.size ≤ a) (X : Exa Z h a "com/example/faturista/faturista/engine/missedcharges/BilledLine") (F1 : Fld Z h a "com/example/faturista/faturista/engine/missedcharges/BilledLine" "category" "Lcom/example/faturista/faturista/engine/missedcharges/ChargeCategory;" .null) (F2 : Fld Z h a "com/example/faturista/faturista/engine/missedcharges/BilledLine" "key" "Ljava/lang/String;" .null) (XT : Exa Z h t "com/example/faturista/faturista/engine/missedcharges/ChargeCategory") (FS : Str Z h u cs) (hL : IsL cs) (hb : ¬ cs.all wsI = true) : Ctr l Z [] (⟨"com/example/faturista/faturista/engine/missedcharges/BilledLine", "<init>", "(Lcom/example/faturista/faturista/engine/missedcharges/ChargeCategory;Ljava/lang/String;)V"⟩ : MethodName) prog_79_method_1_code 3 none [] ({ frames := 6, cells := 4, slots := 52, locals := 84 } : Room) [] #[(.ref a), (.ref t), (.ref u)] h (fun v h' S => v = none ∧ Keep h h' [a] ∧ Exa Z h' a "com/example/faturista/faturista/engine/missedcharges/BilledLine" ∧ Fld Z h' a "com/example/faturista/faturista/engine/missedcharges/BilledLine" "category" "Lcom/example/faturista/faturista/engine/missedcharges/ChargeCategory;" (.ref t) ∧ Fld Z h' a "com/example/faturista/faturista/engine/missedcharges/BilledLine" "key" "Ljava/lang/String;" (.ref u)) := by
  refine enter (a0 := a0) (by first | (simp [plainName, overriddenIn]; done) | decide +kernel) hEL (Ls := #[.val (.ref a), .val (.ref t), .val (.ref u)]) (fun m => by first | (simp [entryFrame, mkF, argsToLocals, Value.category]; done) | rfl) ?_
  intro κ vm T hby hs w Sf
  have dc := Dec.of hby hD_bl
  show Go κ (GQ κ Z [] ({ frames := 6, cells := 4, slots := 52, locals := 84 } : Room) (fun v h' S => v = none ∧ Keep h h' [a] ∧ Exa Z h' a "com/example/faturista/faturista/engine/missedcharges/BilledLine" ∧ Fld Z h' a "com/example/faturista/faturista/engine/missedcharges/BilledLine" "category" "Lcom/example/faturista/faturista/engine/missedcharges/ChargeCategory;" (.ref t) ∧ Fld Z h' a "com/example/faturista/faturista/engine/missedcharges/BilledLine" "key" "Ljava/lang/String;" (.ref u))) T 0 #[.val (.ref a), .val (.ref t), .val (.ref u)] []
  have ozs : Ext Z.heap κ.s.heap := by rw [hs]; exact oz
  refine blk (pc' := 1) (Ls' := #[.val (.ref a), .val (.ref t), .val (.ref u)]) (st' := [(.ref a)]) [oAloadN w.ok (dc.g 0 rfl)] rfl ?_
  refine w.initO (wd hw 57 rfl) (wd hw 33 rfl) (wd hw 34 rfl) rfl (dc.g 1 rfl) (by decide) (Wd := 0) (Nat.le_of_eq rfl) (by decide) ?_
  intro T186 w187
  show Go κ _ T186 4 #[.val (.ref a), .val (.ref t), .val (.ref u)] []
  refine blk (pc' := 6) (Ls' := #[.val (.ref a), .val (.ref t), .val (.ref u)]) (st' := [(.ref t), (.ref a)]) [oAloadN w187.ok (dc.g 2 rfl), oAloadN w187.ok (dc.g 3 rfl)] rfl ?_
  refine w187.ldcO (wd hw 58 rfl) (fun c hc => own_str hw c hc) hEL (dc.g 4 rfl) (c := 32) (by decide) (by decide) (by decide) (by decide) ?_
  intro vm188 T189 h190 a191 w192 E193 C194
  show Go κ _ T189 8 #[.val (.ref a), .val (.ref t), .val (.ref u)] [(.ref a191), (.ref t), (.ref a)]
  refine w192.callS (wd hw 61 rfl) (wd hw 62 rfl) (wd hw 63 rfl) (wd hw 64 rfl) (by decide) (argsL := [(.ref t), (.ref a191)]) (Wd := 1) (Ctr.pays (len := 3) (Wd := 1) (c_rnn l Z a0 hw hEL hJS hJA c0 c1 c2 c3 hCT) w192 (wd hw 64 rfl) (wd hw 63 rfl) hEL (by decide) (by decide) sfNil) pd12 rfl (st := [(.ref a)]) rfl rfl (Nat.le_of_eq rfl) (dc.g 5 rfl) (by decide) (by decide) ?_
  intro vm195 T196 h197 v198 w199 C200 Q201
  obtain ⟨eQ201, rfl⟩ := Q201
  subst eQ201
  show Go κ _ T196 11 #[.val (.ref a), .val (.ref t), .val (.ref u)] [(.ref t), (.ref a)]
  refine w199.castY (wd hw 65 rfl) (Ins.self (XT.ext E193)) (dc.g 6 rfl) ?_
  intro T202 w203
  show Go κ _ T202 14 #[.val (.ref a), .val (.ref t), .val (.ref u)] [(.ref t), (.ref a)]
  refine w203.put (wd hw 67 rfl) (F1.ext E193) (X.ext E193) (Or.inr ⟨(wd hw 68 rfl), rfl, rfl⟩) (wd hw 52 rfl) (ty := (.object "com/example/faturista/faturista/engine/missedcharges/ChargeCategory")) (by decide) rfl rfl safe_nil ha (dc.g 7 rfl) ?_
  intro T204 h206 w205 W207 S208
  show Go κ _ T204 17 #[.val (.ref a), .val (.ref t), .val (.ref u)] []
  have K1 := ((Keep.refl h [a]).ext E193).wr W207 (Or.inl (List.mem_of_getElem? (i := 0) rfl))
  have X1 := (X.ext E193).wr W207
  have G1 : Fld Z h206 a "com/example/faturista/faturista/engine/missedcharges/BilledLine" "category" "Lcom/example/faturista/faturista/engine/missedcharges/ChargeCategory;" (.ref t) := (F1.ext E193).same W207
  have G2 := (F2.ext E193).other W207 (Or.inr (slot_ne (Or.inr (wd hw 120 rfl)) (Or.inr (wd hw 68 rfl)) (by decide) (t := (.object "java/lang/String")) (by decide) (t' := (.object "com/example/faturista/faturista/engine/missedcharges/ChargeCategory")) (by decide)))
  have FS1 := FS.keepObj K1 X (by decide) (wd hw 52 rfl)
  refine blk (pc' := 18) (Ls' := #[.val (.ref a), .val (.ref t), .val (.ref u)]) (st' := [(.ref a)]) [oAloadN w205.ok (dc.g 8 rfl)] rfl ?_
  refine w205.ldcO (wd hw 69 rfl) (fun c hc => own_str hw c hc) hEL (dc.g 9 rfl) (c := 12) (by decide) (by decide) (by decide) (by decide) ?_
  intro vm209 T210 h211 a212 w213 E214 C215
  show Go κ _ T210 20 #[.val (.ref a), .val (.ref t), .val (.ref u)] [(.ref a212), (.ref a)]
  refine blk (pc' := 21) (Ls' := #[.val (.ref a), .val (.ref t), .val (.ref u)]) (st' := [(.ref u), (.ref a212), (.ref a)]) [oAloadN w213.ok (dc.g 10 rfl)] rfl ?_
  refine w213.callS (wd hw 70 rfl) (wd hw 71 rfl) (wd hw 72 rfl) (wd hw 73 rfl) (by decide) (argsL := [(.ref a212), (.ref u)]) (Wd := 1) (Ctr.pays (len := 3) (Wd := 1) (c_rnb l Z a0 hw hEL hJS hJA c0 c1 c2 c3 hCT (w213.old ozs) (FS1.ext E214) hL hb) w213 (wd hw 73 rfl) (wd hw 72 rfl) hEL (by decide) (by decide) sfNil) pd13 rfl (st := [(.ref a)]) rfl rfl (Nat.le_of_eq rfl) (dc.g 11 rfl) (by decide) (by decide) ?_
  intro vm216 T217 h218 v219 w220 C221 Q222
  obtain ⟨eQ222, rfl⟩ := Q222
  subst eQ222
  show Go κ _ T217 24 #[.val (.ref a), .val (.ref t), .val (.ref u)] [(.ref u), (.ref a)]
  refine w220.put (wd hw 119 rfl) (G2.ext E214) (X1.ext E214) (Or.inr ⟨(wd hw 120 rfl), rfl, rfl⟩) (wd hw 52 rfl) (ty := (.object "java/lang/String")) (by decide) rfl rfl safe_nil ha (dc.g 12 rfl) ?_
  intro T223 h225 w224 W226 S227
  show Go κ _ T223 27 #[.val (.ref a), .val (.ref t), .val (.ref u)] []
  have G3 := (G1.ext E214).other W226 (Or.inr (slot_ne (Or.inr (wd hw 68 rfl)) (Or.inr (wd hw 120 rfl)) (by decide) (t := (.object "com/example/faturista/faturista/engine/missedcharges/ChargeCategory")) (by decide) (t' := (.object "java/lang/String")) (by decide)))
  have G4 : Fld Z h225 a "com/example/faturista/faturista/engine/missedcharges/BilledLine" "key" "Ljava/lang/String;" (.ref u) := (G2.ext E214).same W226
  exact w224.retV (dc.g 13 rfl) (by decide) (by decide) (fun S hS => ⟨rfl, (K1.ext E214).wr W226 (Or.inl (List.mem_of_getElem? (i := 0) rfl)), (X1.ext E214).wr W226, G3, G4⟩)
def D_eqN : List (Nat × Instr × Nat) := [(0, .aload_n 1, 1), (1, .instanceof 18, 3), (4, .ifCond .eq 37, 3), (7, .aload_n 1, 1), (8, .checkcast 18, 3), (11, .astore_n 2, 1), (12, .aload_n 0, 1), (13, .getfield 17, 3), (16, .aload_n 2, 1), (17, .getfield 17, 3), (20, .if_acmp .ne 21, 3), (23, .aload_n 0, 1), (24, .getfield 30, 3), (27, .aload_n 2, 1), (28, .getfield 30, 3), (31, .invokevirtual 33, 3), (34, .ifCond .eq 7, 3), (37, .iconst 1, 1), (38, .goto 4, 3), (41, .iconst 0, 1), (42, .ireturn, 1)]
theorem hD_eqN : ∀ q ∈ D_eqN, decode prog_79_method_4_code q.1 = .ok q.2 := by decide +kernel
set_option maxRecDepth 65536 in
set_option maxHeartbeats 4000000 in
theorem c_eqN (l : Launch) (Z : State) (a0 : Array Value) (hw : ∀ d ∈ tables_1, d.before a0 Z = true) (hEL : EW Z a0 []) (hJS : JS Z) (hJA : JA Z) (c0 c1 c2 c3 : Addr) (hCT : CT Z c0 c1 c2 c3) {a : Addr} {h : Heap} : Ctr l Z [] (⟨"com/example/faturista/faturista/engine/missedcharges/BilledLine", "equals", "(Ljava/lang/Object;)Z"⟩ : MethodName) prog_79_method_4_code 3 (some .boolean) [] ({ frames := 0, cells := 0, slots := 0, locals := 0 } : Room) [] #[(.ref a), .null] h (fun v h' S => h = h' ∧ v = some (.int 0)) := by
  refine enter (a0 := a0) (by first | (simp [plainName, overriddenIn]; done) | decide +kernel) hEL (Ls := #[.val (.ref a), .val .null, .unset]) (fun m => by first | (simp [entryFrame, mkF, argsToLocals, Value.category]; done) | rfl) ?_
  intro κ vm T hby hs w Sf
  have dc := Dec.of hby hD_eqN
  show Go κ (GQ κ Z [] ({ frames := 0, cells := 0, slots := 0, locals := 0 } : Room) (fun v h' S => h = h' ∧ v = some (.int 0))) T 0 #[.val (.ref a), .val .null, .unset] []
  refine blk (pc' := 1) (Ls' := #[.val (.ref a), .val .null, .unset]) (st' := [.null]) [oAloadN w.ok (dc.g 0 rfl)] rfl ?_
  refine w.instNull (dc.g 1 rfl) ?_
  show Go κ _ T 4 #[.val (.ref a), .val .null, .unset] [(.int (0 : Int32))]
  refine zEq (pc' := 41) w.ok (dc.g 2 rfl) (by decide) (by decide) (fun hc228 => ?_) (fun hc228 => absurd rfl hc228)
  show Go κ _ T 41 #[.val (.ref a), .val .null, .unset] []
  refine blk (pc' := 42) (Ls' := #[.val (.ref a), .val .null, .unset]) (st' := [(.int (0 : Int32))]) [oIconst w.ok (dc.g 19 rfl)] rfl ?_
  exact w.retI (t := .boolean) rfl (Or.inr (Or.inl rfl)) rfl (dc.g 20 rfl) (by decide) (by decide) (fun S hS => ⟨rfl, rfl⟩)
def D_eqS : List (Nat × Instr × Nat) := [(0, .aload_n 1, 1), (1, .instanceof 18, 3), (4, .ifCond .eq 37, 3), (7, .aload_n 1, 1), (8, .checkcast 18, 3), (11, .astore_n 2, 1), (12, .aload_n 0, 1), (13, .getfield 17, 3), (16, .aload_n 2, 1), (17, .getfield 17, 3), (20, .if_acmp .ne 21, 3), (23, .aload_n 0, 1), (24, .getfield 30, 3), (27, .aload_n 2, 1), (28, .getfield 30, 3), (31, .invokevirtual 33, 3), (34, .ifCond .eq 7, 3), (37, .iconst 1, 1), (38, .goto 4, 3), (41, .iconst 0, 1), (42, .ireturn, 1)]
theorem hD_eqS : ∀ q ∈ D_eqS, decode prog_79_method_4_code q.1 = .ok q.2 := by decide +kernel
set_option maxRecDepth 65536 in
set_option maxHeartbeats 4000000 in
theorem c_eqS (l : Launch) (Z : State) (a0 : Array Value) (hw : ∀ d ∈ tables_1, d.before a0 Z = true) (hEL : EW Z a0 []) (hJS : JS Z) (hJA : JA Z) (c0 c1 c2 c3 : Addr) (hCT : CT Z c0 c1 c2 c3) {a u : Addr} {h : Heap} (X : Exa Z h u "java/lang/String") : Ctr l Z [] (⟨"com/example/faturista/faturista/engine/missedcharges/BilledLine", "equals", "(Ljava/lang/Object;)Z"⟩ : MethodName) prog_79_method_4_code 3 (some .boolean) [] ({ frames := 0, cells := 0, slots := 0, locals := 0 } : Room) [] #[(.ref a), (.ref u)] h (fun v h' S => h = h' ∧ v = some (.int 0)) := by
  refine enter (a0 := a0) (by first | (simp [plainName, overriddenIn]; done) | decide +kernel) hEL (Ls := #[.val (.ref a), .val (.ref u), .unset]) (fun m => by first | (simp [entryFrame, mkF, argsToLocals, Value.category]; done) | rfl) ?_
  intro κ vm T hby hs w Sf
  have dc := Dec.of hby hD_eqS
  show Go κ (GQ κ Z [] ({ frames := 0, cells := 0, slots := 0, locals := 0 } : Room) (fun v h' S => h = h' ∧ v = some (.int 0))) T 0 #[.val (.ref a), .val (.ref u), .unset] []
  refine blk (pc' := 1) (Ls' := #[.val (.ref a), .val (.ref u), .unset]) (st' := [(.ref u)]) [oAloadN w.ok (dc.g 0 rfl)] rfl ?_
  refine w.instNo (wd hw 126 rfl) X (own_noins hw) (dc.g 1 rfl) ?_
  intro T229 w230
  show Go κ _ T229 4 #[.val (.ref a), .val (.ref u), .unset] [(.int (0 : Int32))]
  refine zEq (pc' := 41) w230.ok (dc.g 2 rfl) (by decide) (by decide) (fun hc231 => ?_) (fun hc231 => absurd rfl hc231)
  show Go κ _ T229 41 #[.val (.ref a), .val (.ref u), .unset] []
  refine blk (pc' := 42) (Ls' := #[.val (.ref a), .val (.ref u), .unset]) (st' := [(.int (0 : Int32))]) [oIconst w230.ok (dc.g 19 rfl)] rfl ?_
  exact w230.retI (t := .boolean) rfl (Or.inr (Or.inl rfl)) rfl (dc.g 20 rfl) (by decide) (by decide) (fun S hS => ⟨rfl, rfl⟩)
def D_eqB : List (Nat × Instr × Nat) := [(0, .aload_n 1, 1), (1, .instanceof 18, 3), (4, .ifCond .eq 37, 3), (7, .aload_n 1, 1), (8, .checkcast 18, 3), (11, .astore_n 2, 1), (12, .aload_n 0, 1), (13, .getfield 17, 3), (16, .aload_n 2, 1), (17, .getfield 17, 3), (20, .if_acmp .ne 21, 3), (23, .aload_n 0, 1), (24, .getfield 30, 3), (27, .aload_n 2, 1), (28, .getfield 30, 3), (31, .invokevirtual 33, 3), (34, .ifCond .eq 7, 3), (37, .iconst 1, 1), (38, .goto 4, 3), (41, .iconst 0, 1), (42, .ireturn, 1)]
theorem hD_eqB : ∀ q ∈ D_eqB, decode prog_79_method_4_code q.1 = .ok q.2 := by decide +kernel
set_option maxRecDepth 65536 in
set_option maxHeartbeats 4000000 in
theorem c_eqB (l : Launch) (Z : State) (a0 : Array Value) (hw : ∀ d ∈ tables_1, d.before a0 Z = true) (hEL : EW Z a0 []) (hJS : JS Z) (hJA : JA Z) (c0 c1 c2 c3 : Addr) (hCT : CT Z c0 c1 c2 c3) {a y t t2 u u2 : Addr} {cs ds : List Int32} {h : Heap} (oz : Ext Z.heap h) (F1 : Fld Z h a "com/example/faturista/faturista/engine/missedcharges/BilledLine" "category" "Lcom/example/faturista/faturista/engine/missedcharges/ChargeCategory;" (.ref t)) (F2 : Fld Z h a "com/example/faturista/faturista/engine/missedcharges/BilledLine" "key" "Ljava/lang/String;" (.ref u)) (Y : Exa Z h y "com/example/faturista/faturista/engine/missedcharges/BilledLine") (H1 : Fld Z h y "com/example/faturista/faturista/engine/missedcharges/BilledLine" "category" "Lcom/example/faturista/faturista/engine/missedcharges/ChargeCategory;" (.ref t2)) (H2 : Fld Z h y "com/example/faturista/faturista/engine/missedcharges/BilledLine" "key" "Ljava/lang/String;" (.ref u2)) (G1 : Str Z h u cs) (G2 : Str Z h u2 ds) (hL : IsL cs) (hM : IsL ds) : Ctr l Z [] (⟨"com/example/faturista/faturista/engine/missedcharges/BilledLine", "equals", "(Ljava/lang/Object;)Z"⟩ : MethodName) prog_79_method_4_code 3 (some .boolean) [] ({ frames := 2, cells := 0, slots := 0, locals := 28 } : Room) [] #[(.ref a), (.ref y)] h (fun v h' S => h = h' ∧ v = some (.int (if t = t2 ∧ cs = ds then 1 else 0))) := by
  refine enter (a0 := a0) (by first | (simp [plainName, overriddenIn]; done) | decide +kernel) hEL (Ls := #[.val (.ref a), .val (.ref y), .unset]) (fun m => by first | (simp [entryFrame, mkF, argsToLocals, Value.category]; done) | rfl) ?_
  intro κ vm T hby hs w Sf
  have dc := Dec.of hby hD_eqB
  show Go κ (GQ κ Z [] ({ frames := 2, cells := 0, slots := 0, locals := 28 } : Room) (fun v h' S => h = h' ∧ v = some (.int (if t = t2 ∧ cs = ds then 1 else 0)))) T 0 #[.val (.ref a), .val (.ref y), .unset] []
  have ozs : Ext Z.heap κ.s.heap := by rw [hs]; exact oz
  refine blk (pc' := 1) (Ls' := #[.val (.ref a), .val (.ref y), .unset]) (st' := [(.ref y)]) [oAloadN w.ok (dc.g 0 rfl)] rfl ?_
  refine w.instY (wd hw 126 rfl) (Ins.self Y) (dc.g 1 rfl) ?_
  intro T232 w233
  show Go κ _ T232 4 #[.val (.ref a), .val (.ref y), .unset] [(.int (1 : Int32))]
  refine zEq (pc' := 41) w233.ok (dc.g 2 rfl) (by decide) (by decide) (fun hc234 => absurd hc234 (by decide)) (fun hc234 => ?_)
  show Go κ _ T232 7 #[.val (.ref a), .val (.ref y), .unset] []
  refine blk (pc' := 8) (Ls' := #[.val (.ref a), .val (.ref y), .unset]) (st' := [(.ref y)]) [oAloadN w233.ok (dc.g 3 rfl)] rfl ?_
  refine w233.castY (wd hw 126 rfl) (Ins.self Y) (dc.g 4 rfl) ?_
  intro T235 w236
  show Go κ _ T235 11 #[.val (.ref a), .val (.ref y), .unset] [(.ref y)]
  refine blk (pc' := 13) (Ls' := #[.val (.ref a), .val (.ref y), .val (.ref y)]) (st' := [(.ref a)]) [oAstoreN w236.ok (dc.g 5 rfl), oAloadN w236.ok (dc.g 6 rfl)] rfl ?_
  refine w236.get (wd hw 67 rfl) F1 (dc.g 7 rfl) ?_
  intro T237 w238
  show Go κ _ T237 16 #[.val (.ref a), .val (.ref y), .val (.ref y)] [(.ref t)]
  refine blk (pc' := 17) (Ls' := #[.val (.ref a), .val (.ref y), .val (.ref y)]) (st' := [(.ref y), (.ref t)]) [oAloadN w238.ok (dc.g 8 rfl)] rfl ?_
  refine w238.get (wd hw 67 rfl) H1 (dc.g 9 rfl) ?_
  intro T239 w240
  show Go κ _ T239 20 #[.val (.ref a), .val (.ref y), .val (.ref y)] [(.ref t2), (.ref t)]
  refine w240.acmp (pc' := 41) (dc.g 10 rfl) (by decide) (by decide) (fun hc241 => ?_) (fun hc241 => ?_)
  · show Go κ _ T239 41 #[.val (.ref a), .val (.ref y), .val (.ref y)] []
    refine blk (pc' := 42) (Ls' := #[.val (.ref a), .val (.ref y), .val (.ref y)]) (st' := [(.int (0 : Int32))]) [oIconst w240.ok (dc.g 19 rfl)] rfl ?_
    exact w240.retI (t := .boolean) rfl (Or.inr (Or.inl rfl)) rfl (dc.g 20 rfl) (by decide) (by decide) (fun S hS => ⟨rfl, by rw [if_neg (fun q => hc241 q.1)]⟩)
  · show Go κ _ T239 23 #[.val (.ref a), .val (.ref y), .val (.ref y)] []
    refine blk (pc' := 24) (Ls' := #[.val (.ref a), .val (.ref y), .val (.ref y)]) (st' := [(.ref a)]) [oAloadN w240.ok (dc.g 11 rfl)] rfl ?_
    refine w240.get (wd hw 119 rfl) F2 (dc.g 12 rfl) ?_
    intro T242 w243
    show Go κ _ T242 27 #[.val (.ref a), .val (.ref y), .val (.ref y)] [(.ref u)]
    refine blk (pc' := 28) (Ls' := #[.val (.ref a), .val (.ref y), .val (.ref y)]) (st' := [(.ref y), (.ref u)]) [oAloadN w243.ok (dc.g 13 rfl)] rfl ?_
    refine w243.get (wd hw 119 rfl) H2 (dc.g 14 rfl) ?_
    intro T244 w245
    show Go κ _ T244 31 #[.val (.ref a), .val (.ref y), .val (.ref y)] [(.ref u2), (.ref u)]
    refine w245.callV (wd hw 130 rfl) (wd hw 131 rfl) (notFace (wd hw 133 rfl)) (wd hw 133 rfl) (wd hw 132 rfl) (by decide) (a := u) G1.exa (argsL := [(.ref u2)]) (Wd := 0) (Ctr.pays (len := 3) (Wd := 0) (c_eqs l Z a0 hw hEL hJS hJA c0 c1 c2 c3 hCT (w245.old ozs) G1 G2 hL hM) w245 (wd hw 134 rfl) (wd hw 23 rfl) hEL (by decide) (by decide) sfNil) pd14 rfl (st := []) rfl rfl (Nat.le_of_eq rfl) (dc.g 15 rfl) (by decide) (by decide) ?_
    intro vm246 T247 h248 v249 w250 C251 Q252
    obtain ⟨eQ252, rfl⟩ := Q252
    subst eQ252
    show Go κ _ T247 34 #[.val (.ref a), .val (.ref y), .val (.ref y)] [(.int (if cs = ds then (1 : Int32) else 0))]
    by_cases hq : cs = ds
    · refine Go.top (y := (1 : Int32)) (if_pos hq) ?_
      show Go κ _ T247 34 #[.val (.ref a), .val (.ref y), .val (.ref y)] [(.int (1 : Int32))]
      refine zEq (pc' := 41) w250.ok (dc.g 16 rfl) (by decide) (by decide) (fun hc253 => absurd hc253 (by decide)) (fun hc253 => ?_)
      show Go κ _ T247 37 #[.val (.ref a), .val (.ref y), .val (.ref y)] []
      refine blk (pc' := 42) (Ls' := #[.val (.ref a), .val (.ref y), .val (.ref y)]) (st' := [(.int (1 : Int32))]) [oIconst w250.ok (dc.g 17 rfl), oGoto w250.ok 42 (dc.g 18 rfl)] rfl ?_
      exact w250.retI (t := .boolean) rfl (Or.inr (Or.inl rfl)) rfl (dc.g 20 rfl) (by decide) (by decide) (fun S hS => ⟨rfl, by rw [if_pos ⟨hc241, hq⟩]⟩)
    · refine Go.top (y := (0 : Int32)) (if_neg hq) ?_
      show Go κ _ T247 34 #[.val (.ref a), .val (.ref y), .val (.ref y)] [(.int (0 : Int32))]
      refine zEq (pc' := 41) w250.ok (dc.g 16 rfl) (by decide) (by decide) (fun hc254 => ?_) (fun hc254 => absurd rfl hc254)
      show Go κ _ T247 41 #[.val (.ref a), .val (.ref y), .val (.ref y)] []
      refine blk (pc' := 42) (Ls' := #[.val (.ref a), .val (.ref y), .val (.ref y)]) (st' := [(.int (0 : Int32))]) [oIconst w250.ok (dc.g 19 rfl)] rfl ?_
      exact w250.retI (t := .boolean) rfl (Or.inr (Or.inl rfl)) rfl (dc.g 20 rfl) (by decide) (by decide) (fun S hS => ⟨rfl, by rw [if_neg (fun q => hq q.2)]⟩)
def D_klen : List (Nat × Instr × Nat) := [(0, .iconst 1, 1), (1, .iload_n 0, 1), (2, .bipush 16, 2), (4, .iushr, 1), (5, .iconst 1, 1), (6, .iand, 1), (7, .iadd, 1), (8, .ireturn, 1)]
theorem hD_klen : ∀ q ∈ D_klen, decode method_4_code q.1 = .ok q.2 := by decide +kernel
set_option maxRecDepth 65536 in
set_option maxHeartbeats 4000000 in
theorem c_klen (l : Launch) (Z : State) (a0 : Array Value) (hw : ∀ d ∈ tables_1, d.before a0 Z = true) (hEL : EW Z a0 []) (hJS : JS Z) (hJA : JA Z) (c0 c1 c2 c3 : Addr) (hCT : CT Z c0 c1 c2 c3) {x : Int32} {h : Heap} : Ctr l Z [] (⟨"com/example/faturista/faturista/engine/missedcharges/BilledLineEqualsPinLaw", "len", "(I)I"⟩ : MethodName) method_4_code 1 (some .int) [] ({ frames := 0, cells := 0, slots := 0, locals := 0 } : Room) [] #[(.int x)] h (fun v h' S => h = h' ∧ v = some (.int (kl x))) := by
  refine enter (a0 := a0) (by first | (simp [plainName, overriddenIn]; done) | decide +kernel) hEL (Ls := #[.val (.int x)]) (fun m => by first | (simp [entryFrame, mkF, argsToLocals, Value.category]; done) | rfl) ?_
  intro κ vm T hby hs w Sf
  have dc := Dec.of hby hD_klen
  show Go κ (GQ κ Z [] ({ frames := 0, cells := 0, slots := 0, locals := 0 } : Room) (fun v h' S => h = h' ∧ v = some (.int (kl x)))) T 0 #[.val (.int x)] []
  refine blk (pc' := 8) (Ls' := #[.val (.int x)]) (st' := [(.int ((1 : Int32) + (((x).toUInt32 >>> ((16 : Int32) &&& 31).toUInt32).toInt32 &&& (1 : Int32))))]) [oIconst w.ok (dc.g 0 rfl), oIloadN w.ok (dc.g 1 rfl), oBipush w.ok (dc.g 2 rfl), oIushr w.ok (dc.g 3 rfl), oIconst w.ok (dc.g 4 rfl), oIand w.ok (dc.g 5 rfl), oIadd w.ok (dc.g 6 rfl)] rfl ?_
  exact w.retI (t := .int) rfl (Or.inl rfl) rfl (dc.g 7 rfl) (by decide) (by decide) (fun S hS => ⟨rfl, rfl⟩)
def D_kws : List (Nat × Instr × Nat) := [(0, .iload_n 0, 1), (1, .bipush 9, 2), (3, .if_icmp .lt 9, 3), (6, .iload_n 0, 1), (7, .bipush 13, 2), (9, .if_icmp .le 15, 3), (12, .iload_n 0, 1), (13, .bipush 28, 2), (15, .if_icmp .lt 13, 3), (18, .iload_n 0, 1), (19, .bipush 32, 2), (21, .if_icmp .gt 7, 3), (24, .iconst 1, 1), (25, .goto 4, 3), (28, .iconst 0, 1), (29, .ireturn, 1)]
theorem hD_kws : ∀ q ∈ D_kws, decode method_3_code q.1 = .ok q.2 := by decide +kernel
set_option maxRecDepth 65536 in
set_option maxHeartbeats 4000000 in
theorem c_kws (l : Launch) (Z : State) (a0 : Array Value) (hw : ∀ d ∈ tables_1, d.before a0 Z = true) (hEL : EW Z a0 []) (hJS : JS Z) (hJA : JA Z) (c0 c1 c2 c3 : Addr) (hCT : CT Z c0 c1 c2 c3) {c : Int32} {h : Heap} : Ctr l Z [] (⟨"com/example/faturista/faturista/engine/missedcharges/BilledLineEqualsPinLaw", "ws", "(I)Z"⟩ : MethodName) method_3_code 1 (some .boolean) [] ({ frames := 0, cells := 0, slots := 0, locals := 0 } : Room) [] #[(.int c)] h (fun v h' S => h = h' ∧ v = some (.int (if wsI c = true then 1 else 0))) := by
  refine enter (a0 := a0) (by first | (simp [plainName, overriddenIn]; done) | decide +kernel) hEL (Ls := #[.val (.int c)]) (fun m => by first | (simp [entryFrame, mkF, argsToLocals, Value.category]; done) | rfl) ?_
  intro κ vm T hby hs w Sf
  have dc := Dec.of hby hD_kws
  show Go κ (GQ κ Z [] ({ frames := 0, cells := 0, slots := 0, locals := 0 } : Room) (fun v h' S => h = h' ∧ v = some (.int (if wsI c = true then 1 else 0)))) T 0 #[.val (.int c)] []
  refine blk (pc' := 3) (Ls' := #[.val (.int c)]) (st' := [(.int (9 : Int32)), (.int c)]) [oIloadN w.ok (dc.g 0 rfl), oBipush w.ok (dc.g 1 rfl)] rfl ?_
  refine cLt (pc' := 12) w.ok (dc.g 2 rfl) (by decide) (by decide) (fun hc255 => ?_) (fun hc255 => ?_)
  · show Go κ _ T 12 #[.val (.int c)] []
    refine blk (pc' := 15) (Ls' := #[.val (.int c)]) (st' := [(.int (28 : Int32)), (.int c)]) [oIloadN w.ok (dc.g 6 rfl), oBipush w.ok (dc.g 7 rfl)] rfl ?_
    refine cLt (pc' := 28) w.ok (dc.g 8 rfl) (by decide) (by decide) (fun hc256 => ?_) (fun hc256 => ?_)
    · show Go κ _ T 28 #[.val (.int c)] []
      refine blk (pc' := 29) (Ls' := #[.val (.int c)]) (st' := [(.int (0 : Int32))]) [oIconst w.ok (dc.g 14 rfl)] rfl ?_
      exact w.retI (t := .boolean) rfl (Or.inr (Or.inl rfl)) rfl (dc.g 15 rfl) (by decide) (by decide) (fun S hS => ⟨rfl, by simp [wsI, hc255, hc256]⟩)
    · show Go κ _ T 18 #[.val (.int c)] []
      refine blk (pc' := 21) (Ls' := #[.val (.int c)]) (st' := [(.int (32 : Int32)), (.int c)]) [oIloadN w.ok (dc.g 9 rfl), oBipush w.ok (dc.g 10 rfl)] rfl ?_
      refine cGt (pc' := 28) w.ok (dc.g 11 rfl) (by decide) (by decide) (fun hc257 => ?_) (fun hc257 => ?_)
      · show Go κ _ T 28 #[.val (.int c)] []
        refine blk (pc' := 29) (Ls' := #[.val (.int c)]) (st' := [(.int (0 : Int32))]) [oIconst w.ok (dc.g 14 rfl)] rfl ?_
        exact w.retI (t := .boolean) rfl (Or.inr (Or.inl rfl)) rfl (dc.g 15 rfl) (by decide) (by decide) (fun S hS => ⟨rfl, by simp [wsI, hc255, hc256, hc257]⟩)
      · show Go κ _ T 24 #[.val (.int c)] []
        refine blk (pc' := 29) (Ls' := #[.val (.int c)]) (st' := [(.int (1 : Int32))]) [oIconst w.ok (dc.g 12 rfl), oGoto w.ok 29 (dc.g 13 rfl)] rfl ?_
        exact w.retI (t := .boolean) rfl (Or.inr (Or.inl rfl)) rfl (dc.g 15 rfl) (by decide) (by decide) (fun S hS => ⟨rfl, by simp [wsI, hc255, hc256, hc257]⟩)
  · show Go κ _ T 6 #[.val (.int c)] []
    refine blk (pc' := 9) (Ls' := #[.val (.int c)]) (st' := [(.int (13 : Int32)), (.int c)]) [oIloadN w.ok (dc.g 3 rfl), oBipush w.ok (dc.g 4 rfl)] rfl ?_
    refine cLe (pc' := 24) w.ok (dc.g 5 rfl) (by decide) (by decide) (fun hc258 => ?_) (fun hc258 => ?_)
    · show Go κ _ T 24 #[.val (.int c)] []
      refine blk (pc' := 29) (Ls' := #[.val (.int c)]) (st' := [(.int (1 : Int32))]) [oIconst w.ok (dc.g 12 rfl), oGoto w.ok 29 (dc.g 13 rfl)] rfl ?_
      exact w.retI (t := .boolean) rfl (Or.inr (Or.inl rfl)) rfl (dc.g 15 rfl) (by decide) (by decide) (fun S hS => ⟨rfl, by simp [wsI, hc255, hc258]⟩)
    · show Go κ _ T 12 #[.val (.int c)] []
      refine blk (pc' := 15) (Ls' := #[.val (.int c)]) (st' := [(.int (28 : Int32)), (.int c)]) [oIloadN w.ok (dc.g 6 rfl), oBipush w.ok (dc.g 7 rfl)] rfl ?_
      refine cLt (pc' := 28) w.ok (dc.g 8 rfl) (by decide) (by decide) (fun hc259 => ?_) (fun hc259 => ?_)
      · show Go κ _ T 28 #[.val (.int c)] []
        refine blk (pc' := 29) (Ls' := #[.val (.int c)]) (st' := [(.int (0 : Int32))]) [oIconst w.ok (dc.g 14 rfl)] rfl ?_
        exact w.retI (t := .boolean) rfl (Or.inr (Or.inl rfl)) rfl (dc.g 15 rfl) (by decide) (by decide) (fun S hS => ⟨rfl, by simp [wsI, hc255, hc258, hc259]⟩)
      · show Go κ _ T 18 #[.val (.int c)] []
        refine blk (pc' := 21) (Ls' := #[.val (.int c)]) (st' := [(.int (32 : Int32)), (.int c)]) [oIloadN w.ok (dc.g 9 rfl), oBipush w.ok (dc.g 10 rfl)] rfl ?_
        refine cGt (pc' := 28) w.ok (dc.g 11 rfl) (by decide) (by decide) (fun hc260 => ?_) (fun hc260 => ?_)
        · show Go κ _ T 28 #[.val (.int c)] []
          refine blk (pc' := 29) (Ls' := #[.val (.int c)]) (st' := [(.int (0 : Int32))]) [oIconst w.ok (dc.g 14 rfl)] rfl ?_
          exact w.retI (t := .boolean) rfl (Or.inr (Or.inl rfl)) rfl (dc.g 15 rfl) (by decide) (by decide) (fun S hS => ⟨rfl, by simp [wsI, hc255, hc258, hc259, hc260]⟩)
        · show Go κ _ T 24 #[.val (.int c)] []
          refine blk (pc' := 29) (Ls' := #[.val (.int c)]) (st' := [(.int (1 : Int32))]) [oIconst w.ok (dc.g 12 rfl), oGoto w.ok 29 (dc.g 13 rfl)] rfl ?_
          exact w.retI (t := .boolean) rfl (Or.inr (Or.inl rfl)) rfl (dc.g 15 rfl) (by decide) (by decide) (fun S hS => ⟨rfl, by simp [wsI, hc255, hc258, hc259, hc260]⟩)
def D_kbl : List (Nat × Instr × Nat) := [(0, .iload_n 0, 1), (1, .sipush 255, 3), (4, .iand, 1), (5, .istore_n 1, 1), (6, .iload_n 0, 1), (7, .bipush 8, 2), (9, .iushr, 1), (10, .sipush 255, 3), (13, .iand, 1), (14, .istore_n 2, 1), (15, .iload_n 0, 1), (16, .invokestatic 22, 3), (19, .iconst 1, 1), (20, .if_icmp .ne 8, 3), (23, .iload_n 1, 1), (24, .invokestatic 28, 3), (27, .ireturn, 1), (28, .iload_n 1, 1), (29, .invokestatic 28, 3), (32, .ifCond .eq 14, 3), (35, .iload_n 2, 1), (36, .invokestatic 28, 3), (39, .ifCond .eq 7, 3), (42, .iconst 1, 1), (43, .goto 4, 3), (46, .iconst 0, 1), (47, .ireturn, 1)]
theorem hD_kbl : ∀ q ∈ D_kbl, decode method_5_code q.1 = .ok q.2 := by decide +kernel
set_option maxRecDepth 65536 in
set_option maxHeartbeats 4000000 in
theorem c_kbl (l : Launch) (Z : State) (a0 : Array Value) (hw : ∀ d ∈ tables_1, d.before a0 Z = true) (hEL : EW Z a0 []) (hJS : JS Z) (hJA : JA Z) (c0 c1 c2 c3 : Addr) (hCT : CT Z c0 c1 c2 c3) {x : Int32} {h : Heap} : Ctr l Z [] (⟨"com/example/faturista/faturista/engine/missedcharges/BilledLineEqualsPinLaw", "blank", "(I)Z"⟩ : MethodName) method_5_code 3 (some .boolean) [] ({ frames := 1, cells := 0, slots := 0, locals := 12 } : Room) [] #[(.int x)] h (fun v h' S => h = h' ∧ v = some (.int (if (kcs x).all wsI = true then 1 else 0))) := by
  refine enter (a0 := a0) (by first | (simp [plainName, overriddenIn]; done) | decide +kernel) hEL (Ls := #[.val (.int x), .unset, .unset]) (fun m => by first | (simp [entryFrame, mkF, argsToLocals, Value.category]; done) | rfl) ?_
  intro κ vm T hby hs w Sf
  have dc := Dec.of hby hD_kbl
  show Go κ (GQ κ Z [] ({ frames := 1, cells := 0, slots := 0, locals := 12 } : Room) (fun v h' S => h = h' ∧ v = some (.int (if (kcs x).all wsI = true then 1 else 0)))) T 0 #[.val (.int x), .unset, .unset] []
  refine blk (pc' := 15) (Ls' := #[.val (.int x), .val (.int (x &&& (255 : Int32))), .val (.int (((x).toUInt32 >>> ((8 : Int32) &&& 31).toUInt32).toInt32 &&& (255 : Int32)))]) (st' := []) [oIloadN w.ok (dc.g 0 rfl), oSipush w.ok (dc.g 1 rfl), oIand w.ok (dc.g 2 rfl), oIstoreN w.ok (dc.g 3 rfl), oIloadN w.ok (dc.g 4 rfl), oBipush w.ok (dc.g 5 rfl), oIushr w.ok (dc.g 6 rfl), oSipush w.ok (dc.g 7 rfl), oIand w.ok (dc.g 8 rfl), oIstoreN w.ok (dc.g 9 rfl)] rfl ?_
  show Go κ _ T 15 #[.val (.int x), .val (.int (x &&& (255 : Int32))), .val (.int (((x).toUInt32 >>> ((8 : Int32) &&& 31).toUInt32).toInt32 &&& (255 : Int32)))] []
  show Go κ _ T 15 #[.val (.int x), .val (.int (b0 x)), .val (.int (b1 x))] []
  refine blk (pc' := 16) (Ls' := #[.val (.int x), .val (.int (b0 x)), .val (.int (b1 x))]) (st' := [(.int x)]) [oIloadN w.ok (dc.g 10 rfl)] rfl ?_
  refine w.callS (wd hw 4 rfl) (wd hw 5 rfl) (wd hw 2 rfl) (wd hw 6 rfl) (by decide) (argsL := [(.int x)]) (Wd := 0) (Ctr.pays (len := 3) (Wd := 0) (c_klen l Z a0 hw hEL hJS hJA c0 c1 c2 c3 hCT) w (wd hw 6 rfl) (wd hw 2 rfl) hEL (by decide) (by decide) sfNil) pd5 rfl (st := []) rfl rfl (Nat.le_of_eq rfl) (dc.g 11 rfl) (by decide) (by decide) ?_
  intro vm261 T262 h263 v264 w265 C266 Q267
  obtain ⟨eQ267, rfl⟩ := Q267
  subst eQ267
  show Go κ _ T262 19 #[.val (.int x), .val (.int (b0 x)), .val (.int (b1 x))] [(.int (kl x))]
  refine blk (pc' := 20) (Ls' := #[.val (.int x), .val (.int (b0 x)), .val (.int (b1 x))]) (st' := [(.int (1 : Int32)), (.int (kl x))]) [oIconst w265.ok (dc.g 12 rfl)] rfl ?_
  refine cNe (pc' := 28) w265.ok (dc.g 13 rfl) (by decide) (by decide) (fun hc268 => ?_) (fun hc268 => ?_)
  · show Go κ _ T262 28 #[.val (.int x), .val (.int (b0 x)), .val (.int (b1 x))] []
    have ek : kcs x = [b0 x, b1 x] := if_neg hc268
    refine blk (pc' := 29) (Ls' := #[.val (.int x), .val (.int (b0 x)), .val (.int (b1 x))]) (st' := [(.int (b0 x))]) [oIloadN w265.ok (dc.g 17 rfl)] rfl ?_
    refine w265.callS (wd hw 7 rfl) (wd hw 8 rfl) (wd hw 2 rfl) (wd hw 9 rfl) (by decide) (argsL := [(.int (b0 x))]) (Wd := 0) (Ctr.pays (len := 3) (Wd := 0) (c_kws l Z a0 hw hEL hJS hJA c0 c1 c2 c3 hCT) w265 (wd hw 9 rfl) (wd hw 2 rfl) hEL (by decide) (by decide) sfNil) pd7 rfl (st := []) rfl rfl (Nat.le_of_eq rfl) (dc.g 18 rfl) (by decide) (by decide) ?_
    intro vm269 T270 h271 v272 w273 C274 Q275
    obtain ⟨eQ275, rfl⟩ := Q275
    subst eQ275
    show Go κ _ T270 32 #[.val (.int x), .val (.int (b0 x)), .val (.int (b1 x))] [(.int (if wsI (b0 x) = true then (1 : Int32) else 0))]
    cases hk : wsI (b0 x)
    · refine Go.top (y := (0 : Int32)) (if_neg (by decide)) ?_
      show Go κ _ T270 32 #[.val (.int x), .val (.int (b0 x)), .val (.int (b1 x))] [(.int (0 : Int32))]
      refine zEq (pc' := 46) w273.ok (dc.g 19 rfl) (by decide) (by decide) (fun hc276 => ?_) (fun hc276 => absurd rfl hc276)
      show Go κ _ T270 46 #[.val (.int x), .val (.int (b0 x)), .val (.int (b1 x))] []
      refine blk (pc' := 47) (Ls' := #[.val (.int x), .val (.int (b0 x)), .val (.int (b1 x))]) (st' := [(.int (0 : Int32))]) [oIconst w273.ok (dc.g 25 rfl)] rfl ?_
      exact w273.retI (t := .boolean) rfl (Or.inr (Or.inl rfl)) rfl (dc.g 26 rfl) (by decide) (by decide) (fun S hS => ⟨rfl, by rw [ek]; simp [hk]⟩)
    · refine Go.top (y := (1 : Int32)) (if_pos rfl) ?_
      show Go κ _ T270 32 #[.val (.int x), .val (.int (b0 x)), .val (.int (b1 x))] [(.int (1 : Int32))]
      refine zEq (pc' := 46) w273.ok (dc.g 19 rfl) (by decide) (by decide) (fun hc277 => absurd hc277 (by decide)) (fun hc277 => ?_)
      show Go κ _ T270 35 #[.val (.int x), .val (.int (b0 x)), .val (.int (b1 x))] []
      refine blk (pc' := 36) (Ls' := #[.val (.int x), .val (.int (b0 x)), .val (.int (b1 x))]) (st' := [(.int (b1 x))]) [oIloadN w273.ok (dc.g 20 rfl)] rfl ?_
      refine w273.callS (wd hw 7 rfl) (wd hw 8 rfl) (wd hw 2 rfl) (wd hw 9 rfl) (by decide) (argsL := [(.int (b1 x))]) (Wd := 0) (Ctr.pays (len := 3) (Wd := 0) (c_kws l Z a0 hw hEL hJS hJA c0 c1 c2 c3 hCT) w273 (wd hw 9 rfl) (wd hw 2 rfl) hEL (by decide) (by decide) sfNil) pd7 rfl (st := []) rfl rfl (Nat.le_of_eq rfl) (dc.g 21 rfl) (by decide) (by decide) ?_
      intro vm278 T279 h280 v281 w282 C283 Q284
      obtain ⟨eQ284, rfl⟩ := Q284
      subst eQ284
      show Go κ _ T279 39 #[.val (.int x), .val (.int (b0 x)), .val (.int (b1 x))] [(.int (if wsI (b1 x) = true then (1 : Int32) else 0))]
      cases hk1 : wsI (b1 x)
      · refine Go.top (y := (0 : Int32)) (if_neg (by decide)) ?_
        show Go κ _ T279 39 #[.val (.int x), .val (.int (b0 x)), .val (.int (b1 x))] [(.int (0 : Int32))]
        refine zEq (pc' := 46) w282.ok (dc.g 22 rfl) (by decide) (by decide) (fun hc285 => ?_) (fun hc285 => absurd rfl hc285)
        show Go κ _ T279 46 #[.val (.int x), .val (.int (b0 x)), .val (.int (b1 x))] []
        refine blk (pc' := 47) (Ls' := #[.val (.int x), .val (.int (b0 x)), .val (.int (b1 x))]) (st' := [(.int (0 : Int32))]) [oIconst w282.ok (dc.g 25 rfl)] rfl ?_
        exact w282.retI (t := .boolean) rfl (Or.inr (Or.inl rfl)) rfl (dc.g 26 rfl) (by decide) (by decide) (fun S hS => ⟨rfl, by rw [ek]; simp [hk1]⟩)
      · refine Go.top (y := (1 : Int32)) (if_pos rfl) ?_
        show Go κ _ T279 39 #[.val (.int x), .val (.int (b0 x)), .val (.int (b1 x))] [(.int (1 : Int32))]
        refine zEq (pc' := 46) w282.ok (dc.g 22 rfl) (by decide) (by decide) (fun hc286 => absurd hc286 (by decide)) (fun hc286 => ?_)
        show Go κ _ T279 42 #[.val (.int x), .val (.int (b0 x)), .val (.int (b1 x))] []
        refine blk (pc' := 47) (Ls' := #[.val (.int x), .val (.int (b0 x)), .val (.int (b1 x))]) (st' := [(.int (1 : Int32))]) [oIconst w282.ok (dc.g 23 rfl), oGoto w282.ok 47 (dc.g 24 rfl)] rfl ?_
        exact w282.retI (t := .boolean) rfl (Or.inr (Or.inl rfl)) rfl (dc.g 26 rfl) (by decide) (by decide) (fun S hS => ⟨rfl, by rw [ek]; simp [hk, hk1]⟩)
  · show Go κ _ T262 23 #[.val (.int x), .val (.int (b0 x)), .val (.int (b1 x))] []
    have ek : kcs x = [b0 x] := if_pos hc268
    refine blk (pc' := 24) (Ls' := #[.val (.int x), .val (.int (b0 x)), .val (.int (b1 x))]) (st' := [(.int (b0 x))]) [oIloadN w265.ok (dc.g 14 rfl)] rfl ?_
    refine w265.callS (wd hw 7 rfl) (wd hw 8 rfl) (wd hw 2 rfl) (wd hw 9 rfl) (by decide) (argsL := [(.int (b0 x))]) (Wd := 0) (Ctr.pays (len := 3) (Wd := 0) (c_kws l Z a0 hw hEL hJS hJA c0 c1 c2 c3 hCT) w265 (wd hw 9 rfl) (wd hw 2 rfl) hEL (by decide) (by decide) sfNil) pd7 rfl (st := []) rfl rfl (Nat.le_of_eq rfl) (dc.g 15 rfl) (by decide) (by decide) ?_
    intro vm287 T288 h289 v290 w291 C292 Q293
    obtain ⟨eQ293, rfl⟩ := Q293
    subst eQ293
    show Go κ _ T288 27 #[.val (.int x), .val (.int (b0 x)), .val (.int (b1 x))] [(.int (if wsI (b0 x) = true then (1 : Int32) else 0))]
    exact w291.retI (t := .boolean) rfl (Or.inr (Or.inl rfl)) (by split <;> rfl) (dc.g 16 rfl) (by decide) (by decide) (fun S hS => ⟨rfl, by rw [ek]; simp⟩)
def D_kct : List (Nat × Instr × Nat) := [(0, .iload_n 0, 1), (1, .iconst 3, 1), (2, .iand, 1), (3, .istore_n 1, 1), (4, .iload_n 1, 1), (5, .ifCond .ne 7, 3), (8, .getstatic 7, 3), (11, .areturn, 1), (12, .iload_n 1, 1), (13, .iconst 1, 1), (14, .if_icmp .ne 7, 3), (17, .getstatic 13, 3), (20, .areturn, 1), (21, .iload_n 1, 1), (22, .iconst 2, 1), (23, .if_icmp .ne 7, 3), (26, .getstatic 16, 3), (29, .areturn, 1), (30, .getstatic 19, 3), (33, .areturn, 1)]
theorem hD_kct : ∀ q ∈ D_kct, decode method_2_code q.1 = .ok q.2 := by decide +kernel
set_option maxRecDepth 65536 in
set_option maxHeartbeats 4000000 in
theorem c_kct (l : Launch) (Z : State) (a0 : Array Value) (hw : ∀ d ∈ tables_1, d.before a0 Z = true) (hEL : EW Z a0 []) (hJS : JS Z) (hJA : JA Z) (c0 c1 c2 c3 : Addr) (hCT : CT Z c0 c1 c2 c3) {x : Int32} {h : Heap} (oz : Ext Z.heap h) : Ctr l Z [] (⟨"com/example/faturista/faturista/engine/missedcharges/BilledLineEqualsPinLaw", "cat", "(I)Lcom/example/faturista/faturista/engine/missedcharges/ChargeCategory;"⟩ : MethodName) method_2_code 2 (some (.object "com/example/faturista/faturista/engine/missedcharges/ChargeCategory")) [] ({ frames := 0, cells := 0, slots := 0, locals := 0 } : Room) [] #[(.int x)] h (fun v h' S => h = h' ∧ v = some (.ref (ct c0 c1 c2 c3 (x &&& 3)))) := by
  refine enter (a0 := a0) (by first | (simp [plainName, overriddenIn]; done) | decide +kernel) hEL (Ls := #[.val (.int x), .unset]) (fun m => by first | (simp [entryFrame, mkF, argsToLocals, Value.category]; done) | rfl) ?_
  intro κ vm T hby hs w Sf
  have dc := Dec.of hby hD_kct
  show Go κ (GQ κ Z [] ({ frames := 0, cells := 0, slots := 0, locals := 0 } : Room) (fun v h' S => h = h' ∧ v = some (.ref (ct c0 c1 c2 c3 (x &&& 3))))) T 0 #[.val (.int x), .unset] []
  have ozs : Ext Z.heap κ.s.heap := by rw [hs]; exact oz
  obtain ⟨⟨s0, -⟩, ⟨s1, -⟩, ⟨s2, -⟩, ⟨s3, -⟩, -⟩ := id hCT
  refine blk (pc' := 5) (Ls' := #[.val (.int x), .val (.int (x &&& (3 : Int32)))]) (st' := [(.int (x &&& (3 : Int32)))]) [oIloadN w.ok (dc.g 0 rfl), oIconst w.ok (dc.g 1 rfl), oIand w.ok (dc.g 2 rfl), oIstoreN w.ok (dc.g 3 rfl), oIloadN w.ok (dc.g 4 rfl)] rfl ?_
  refine zNe (pc' := 12) w.ok (dc.g 5 rfl) (by decide) (by decide) (fun hc294 => ?_) (fun hc294 => ?_)
  · show Go κ _ T 12 #[.val (.int x), .val (.int (x &&& (3 : Int32)))] []
    refine blk (pc' := 14) (Ls' := #[.val (.int x), .val (.int (x &&& (3 : Int32)))]) (st' := [(.int (1 : Int32)), (.int (x &&& (3 : Int32)))]) [oIloadN w.ok (dc.g 8 rfl), oIconst w.ok (dc.g 9 rfl)] rfl ?_
    refine cNe (pc' := 21) w.ok (dc.g 10 rfl) (by decide) (by decide) (fun hc295 => ?_) (fun hc295 => ?_)
    · show Go κ _ T 21 #[.val (.int x), .val (.int (x &&& (3 : Int32)))] []
      refine blk (pc' := 23) (Ls' := #[.val (.int x), .val (.int (x &&& (3 : Int32)))]) (st' := [(.int (2 : Int32)), (.int (x &&& (3 : Int32)))]) [oIloadN w.ok (dc.g 13 rfl), oIconst w.ok (dc.g 14 rfl)] rfl ?_
      refine cNe (pc' := 30) w.ok (dc.g 15 rfl) (by decide) (by decide) (fun hc296 => ?_) (fun hc296 => ?_)
      · show Go κ _ T 30 #[.val (.int x), .val (.int (x &&& (3 : Int32)))] []
        refine w.gets (wd hw 16 rfl) (s3.ext (w.old ozs)) (dc.g 18 rfl) ?_
        intro T297 w298
        show Go κ _ T297 33 #[.val (.int x), .val (.int (x &&& (3 : Int32)))] [(.ref c3)]
        exact w298.retA rfl rfl rfl rfl (dc.g 19 rfl) (by decide) (by decide) (fun S hS => ⟨rfl, by simp [ct, hc294, hc295, hc296]⟩)
      · show Go κ _ T 26 #[.val (.int x), .val (.int (x &&& (3 : Int32)))] []
        refine w.gets (wd hw 135 rfl) (s2.ext (w.old ozs)) (dc.g 16 rfl) ?_
        intro T299 w300
        show Go κ _ T299 29 #[.val (.int x), .val (.int (x &&& (3 : Int32)))] [(.ref c2)]
        exact w300.retA rfl rfl rfl rfl (dc.g 17 rfl) (by decide) (by decide) (fun S hS => ⟨rfl, by simp [ct, hc296]⟩)
    · show Go κ _ T 17 #[.val (.int x), .val (.int (x &&& (3 : Int32)))] []
      refine w.gets (wd hw 141 rfl) (s1.ext (w.old ozs)) (dc.g 11 rfl) ?_
      intro T301 w302
      show Go κ _ T301 20 #[.val (.int x), .val (.int (x &&& (3 : Int32)))] [(.ref c1)]
      exact w302.retA rfl rfl rfl rfl (dc.g 12 rfl) (by decide) (by decide) (fun S hS => ⟨rfl, by simp [ct, hc295]⟩)
  · show Go κ _ T 8 #[.val (.int x), .val (.int (x &&& (3 : Int32)))] []
    refine w.gets (wd hw 13 rfl) (s0.ext (w.old ozs)) (dc.g 6 rfl) ?_
    intro T303 w304
    show Go κ _ T303 11 #[.val (.int x), .val (.int (x &&& (3 : Int32)))] [(.ref c0)]
    exact w304.retA rfl rfl rfl rfl (dc.g 7 rfl) (by decide) (by decide) (fun S hS => ⟨rfl, by simp [ct, hc294]⟩)
def D_key : List (Nat × Instr × Nat) := [(0, .iload_n 0, 1), (1, .sipush 255, 3), (4, .iand, 1), (5, .i2c, 1), (6, .istore_n 1, 1), (7, .iload_n 0, 1), (8, .bipush 8, 2), (10, .iushr, 1), (11, .sipush 255, 3), (14, .iand, 1), (15, .i2c, 1), (16, .istore_n 2, 1), (17, .iload_n 0, 1), (18, .invokestatic 22, 3), (21, .iconst 1, 1), (22, .if_icmp .ne 18, 3), (25, .new 32, 3), (28, .dup, 1), (29, .iconst 1, 1), (30, .newarray .char, 2), (32, .dup, 1), (33, .iconst 0, 1), (34, .iload_n 1, 1), (35, .castore, 1), (36, .invokespecial 34, 3), (39, .areturn, 1), (40, .new 32, 3), (43, .dup, 1), (44, .iconst 2, 1), (45, .newarray .char, 2), (47, .dup, 1), (48, .iconst 0, 1), (49, .iload_n 1, 1), (50, .castore, 1), (51, .dup, 1), (52, .iconst 1, 1), (53, .iload_n 2, 1), (54, .castore, 1), (55, .invokespecial 34, 3), (58, .areturn, 1)]
theorem hD_key : ∀ q ∈ D_key, decode method_6_code q.1 = .ok q.2 := by decide +kernel
set_option maxRecDepth 65536 in
set_option maxHeartbeats 4000000 in
theorem c_key (l : Launch) (Z : State) (a0 : Array Value) (hw : ∀ d ∈ tables_1, d.before a0 Z = true) (hEL : EW Z a0 []) (hJS : JS Z) (hJA : JA Z) (c0 c1 c2 c3 : Addr) (hCT : CT Z c0 c1 c2 c3) {x : Int32} {h : Heap} (oz : Ext Z.heap h) : Ctr l Z [] (⟨"com/example/faturista/faturista/engine/missedcharges/BilledLineEqualsPinLaw", "key", "(I)Ljava/lang/String;"⟩ : MethodName) method_6_code 3 (some (.object "java/lang/String")) [] ({ frames := 4, cells := 3, slots := 10, locals := 67 } : Room) [] #[(.int x)] h (fun v h' S => Keep h h' [] ∧ ∃ u, v = some (.ref u) ∧ Str Z h' u (kcs x)) := by
  refine enter (a0 := a0) (by first | (simp [plainName, overriddenIn]; done) | decide +kernel) hEL (Ls := #[.val (.int x), .unset, .unset]) (fun m => by first | (simp [entryFrame, mkF, argsToLocals, Value.category]; done) | rfl) ?_
  intro κ vm T hby hs w Sf
  have dc := Dec.of hby hD_key
  show Go κ (GQ κ Z [] ({ frames := 4, cells := 3, slots := 10, locals := 67 } : Room) (fun v h' S => Keep h h' [] ∧ ∃ u, v = some (.ref u) ∧ Str Z h' u (kcs x))) T 0 #[.val (.int x), .unset, .unset] []
  have ozs : Ext Z.heap κ.s.heap := by rw [hs]; exact oz
  refine blk (pc' := 17) (Ls' := #[.val (.int x), .val (.int (((x &&& (255 : Int32))).toUInt32.toUInt16.toUInt32.toInt32)), .val (.int (((((x).toUInt32 >>> ((8 : Int32) &&& 31).toUInt32).toInt32 &&& (255 : Int32))).toUInt32.toUInt16.toUInt32.toInt32))]) (st' := []) [oIloadN w.ok (dc.g 0 rfl), oSipush w.ok (dc.g 1 rfl), oIand w.ok (dc.g 2 rfl), oI2c w.ok (dc.g 3 rfl), oIstoreN w.ok (dc.g 4 rfl), oIloadN w.ok (dc.g 5 rfl), oBipush w.ok (dc.g 6 rfl), oIushr w.ok (dc.g 7 rfl), oSipush w.ok (dc.g 8 rfl), oIand w.ok (dc.g 9 rfl), oI2c w.ok (dc.g 10 rfl), oIstoreN w.ok (dc.g 11 rfl)] rfl ?_
  have q0 := and255' x
  have q1 := and255' ((x.toUInt32 >>> ((8 : Int32) &&& 31).toUInt32).toInt32)
  rw [char_of q0.1 (le255 q0.2), char_of q1.1 (le255 q1.2)]
  show Go κ _ T 17 #[.val (.int x), .val (.int (b0 x)), .val (.int (b1 x))] []
  refine blk (pc' := 18) (Ls' := #[.val (.int x), .val (.int (b0 x)), .val (.int (b1 x))]) (st' := [(.int x)]) [oIloadN w.ok (dc.g 12 rfl)] rfl ?_
  refine w.callS (wd hw 4 rfl) (wd hw 5 rfl) (wd hw 2 rfl) (wd hw 6 rfl) (by decide) (argsL := [(.int x)]) (Wd := 0) (Ctr.pays (len := 3) (Wd := 0) (c_klen l Z a0 hw hEL hJS hJA c0 c1 c2 c3 hCT) w (wd hw 6 rfl) (wd hw 2 rfl) hEL (by decide) (by decide) sfNil) pd5 rfl (st := []) rfl rfl (Nat.le_of_eq rfl) (dc.g 13 rfl) (by decide) (by decide) ?_
  intro vm305 T306 h307 v308 w309 C310 Q311
  obtain ⟨eQ311, rfl⟩ := Q311
  subst eQ311
  show Go κ _ T306 21 #[.val (.int x), .val (.int (b0 x)), .val (.int (b1 x))] [(.int (kl x))]
  refine blk (pc' := 22) (Ls' := #[.val (.int x), .val (.int (b0 x)), .val (.int (b1 x))]) (st' := [(.int (1 : Int32)), (.int (kl x))]) [oIconst w309.ok (dc.g 14 rfl)] rfl ?_
  refine cNe (pc' := 40) w309.ok (dc.g 15 rfl) (by decide) (by decide) (fun hc312 => ?_) (fun hc312 => ?_)
  · show Go κ _ T306 40 #[.val (.int x), .val (.int (b0 x)), .val (.int (b1 x))] []
    have ek : kcs x = [(b0 x), (b1 x)] := if_neg hc312
    have hL : IsL ([(b0 x), (b1 x)] : List Int32) := ek ▸ kcs_L x
    refine w309.new (wd hw 21 rfl) (wd hw 22 rfl) (wd hw 23 rfl) (dc.g 26 rfl) (by decide) (by decide) ?_
    intro T313 h315 x316 w314 g317 E318 X319 D320 S321
    show Go κ _ T313 43 #[.val (.int x), .val (.int (b0 x)), .val (.int (b1 x))] [(.ref x316)]
    refine blk (pc' := 45) (Ls' := #[.val (.int x), .val (.int (b0 x)), .val (.int (b1 x))]) (st' := [(.int (2 : Int32)), (.ref x316), (.ref x316)]) [oDup w314.ok (dc.g 27 rfl), oIconst w314.ok (dc.g 28 rfl)] rfl ?_
    refine w314.newarr (aty := .char) (wd hw 24 rfl) (dc.g 29 rfl) (c := 2) (by decide) (by decide) (cap := 2) (by first | decide | omega) (by first | decide | omega) (by decide) (by decide) rfl rfl ?_
    intro T322 h324 x325 w323 g326 E327 F328 S329
    show Go κ _ T322 47 #[.val (.int x), .val (.int (b0 x)), .val (.int (b1 x))] [(.ref x325), (.ref x316), (.ref x316)]
    have SS330 := Safe.ext E327 w314.chv S321
    have XX331 := X319.ext E327
    have FV332 := (D320 (Or.inr (wd hw 50 rfl)) (ty := .array .byte) (by decide)).ext E327
    have FC333 := (D320 (Or.inr (wd hw 48 rfl)) (ty := .byte) (by decide)).ext E327
    have KK334 := ((Keep.refl h []).ext E318).ext E327
    have hx336 : h.size ≤ x316 := by rw [g317]; exact Nat.le_refl _
    have hg337 : h.size ≤ x325 := by rw [g326]; exact E318.1
    refine blk (pc' := 50) (Ls' := #[.val (.int x), .val (.int (b0 x)), .val (.int (b1 x))]) (st' := [(.int (b0 x)), (.int (0 : Int32)), (.ref x325), (.ref x325), (.ref x316), (.ref x316)]) [oDup w323.ok (dc.g 30 rfl), oIconst w323.ok (dc.g 31 rfl), oIloadN w323.ok (dc.g 32 rfl)] rfl ?_
    refine w323.cst F328 (i := 0) rfl (by simp) (narCh ((hL.isC (b0 x) (by simp))).1 ((hL.isC (b0 x) (by simp))).2) (fitsCh ((hL.isC (b0 x) (by simp))).1 ((hL.isC (b0 x) (by simp))).2) (Nat.le_trans oz.1 hg337) (dc.g 33 rfl) ?_
    intro T338 h340 w339 W341 F342
    show Go κ _ T338 51 #[.val (.int x), .val (.int (b0 x)), .val (.int (b1 x))] [(.ref x325), (.ref x316), (.ref x316)]
    obtain ⟨slW341, vvW341, WW341⟩ := W341
    have ne348 : x316 ≠ x325 := Ne.symm (F328.ne_exa XX331 (wd hw 22 rfl))
    have SS343 := Safe.wr WW341 (F328.safe w323.alike (by decide)) w323.chv SS330
    have XX344 := XX331.wr WW341
    have FV345 := FV332.other WW341 (Or.inl ne348)
    have FC346 := FC333.other WW341 (Or.inl ne348)
    have KK347 := KK334.wr WW341 (Or.inr hg337)
    refine blk (pc' := 54) (Ls' := #[.val (.int x), .val (.int (b0 x)), .val (.int (b1 x))]) (st' := [(.int (b1 x)), (.int (1 : Int32)), (.ref x325), (.ref x325), (.ref x316), (.ref x316)]) [oDup w339.ok (dc.g 34 rfl), oIconst w339.ok (dc.g 35 rfl), oIloadN w339.ok (dc.g 36 rfl)] rfl ?_
    refine w339.cst F342 (i := 1) rfl (by simp) (narCh ((hL.isC (b1 x) (by simp))).1 ((hL.isC (b1 x) (by simp))).2) (fitsCh ((hL.isC (b1 x) (by simp))).1 ((hL.isC (b1 x) (by simp))).2) (Nat.le_trans oz.1 hg337) (dc.g 37 rfl) ?_
    intro T349 h351 w350 W352 F353
    show Go κ _ T349 55 #[.val (.int x), .val (.int (b0 x)), .val (.int (b1 x))] [(.ref x325), (.ref x316), (.ref x316)]
    obtain ⟨slW352, vvW352, WW352⟩ := W352
    have ne359 : x316 ≠ x325 := Ne.symm (F342.ne_exa XX344 (wd hw 22 rfl))
    have SS354 := Safe.wr WW352 (F342.safe w339.alike (by decide)) w339.chv SS343
    have XX355 := XX344.wr WW352
    have FV356 := FV345.other WW352 (Or.inl ne359)
    have FC357 := FC346.other WW352 (Or.inl ne359)
    have KK358 := KK347.wr WW352 (Or.inr hg337)
    refine w350.callI rfl (wd hw 25 rfl) (wd hw 26 rfl) (wd hw 27 rfl) (by decide) (a := x316) (argsL := [(.ref x325)]) (Wd := 1) (Ctr.pays (len := 3) (Wd := 1) (c_si1 l Z a0 hw hEL hJS hJA c0 c1 c2 c3 hCT (cs := ([(b0 x), (b1 x)] : List Int32)) (w350.old ozs) XX355 FV356 FC357 (Nat.le_trans oz.1 hx336) F353 (by simp) hL (by simp)) w350 (wd hw 27 rfl) (wd hw 23 rfl) hEL (by decide) (by decide) (sfOne XX355.lt SS354)) pd15 rfl (st := [(.ref x316)]) rfl rfl (Nat.le_of_eq rfl) (dc.g 38 rfl) (by decide) (by decide) ?_
    intro vm360 T361 h362 v363 w364 C365 Q366
    obtain ⟨rfl, K367, FS368⟩ := Q366
    show Go κ _ T361 58 #[.val (.int x), .val (.int (b0 x)), .val (.int (b1 x))] [(.ref x316)]
    have K369 := KK358.trans K367 (allS (Or.inr hx336) all0)
    exact w364.retA rfl rfl rfl rfl (dc.g 39 rfl) (by decide) (by decide) (fun S hS => ⟨K369, _, rfl, by rw [ek]; exact FS368⟩)
  · show Go κ _ T306 25 #[.val (.int x), .val (.int (b0 x)), .val (.int (b1 x))] []
    have ek : kcs x = [(b0 x)] := if_pos hc312
    have hL : IsL ([(b0 x)] : List Int32) := ek ▸ kcs_L x
    refine w309.new (wd hw 21 rfl) (wd hw 22 rfl) (wd hw 23 rfl) (dc.g 16 rfl) (by decide) (by decide) ?_
    intro T370 h372 x373 w371 g374 E375 X376 D377 S378
    show Go κ _ T370 28 #[.val (.int x), .val (.int (b0 x)), .val (.int (b1 x))] [(.ref x373)]
    refine blk (pc' := 30) (Ls' := #[.val (.int x), .val (.int (b0 x)), .val (.int (b1 x))]) (st' := [(.int (1 : Int32)), (.ref x373), (.ref x373)]) [oDup w371.ok (dc.g 17 rfl), oIconst w371.ok (dc.g 18 rfl)] rfl ?_
    refine w371.newarr (aty := .char) (wd hw 24 rfl) (dc.g 19 rfl) (c := 1) (by decide) (by decide) (cap := 1) (by first | decide | omega) (by first | decide | omega) (by decide) (by decide) rfl rfl ?_
    intro T379 h381 x382 w380 g383 E384 F385 S386
    show Go κ _ T379 32 #[.val (.int x), .val (.int (b0 x)), .val (.int (b1 x))] [(.ref x382), (.ref x373), (.ref x373)]
    have SS387 := Safe.ext E384 w371.chv S378
    have XX388 := X376.ext E384
    have FV389 := (D377 (Or.inr (wd hw 50 rfl)) (ty := .array .byte) (by decide)).ext E384
    have FC390 := (D377 (Or.inr (wd hw 48 rfl)) (ty := .byte) (by decide)).ext E384
    have KK391 := ((Keep.refl h []).ext E375).ext E384
    have hx393 : h.size ≤ x373 := by rw [g374]; exact Nat.le_refl _
    have hg394 : h.size ≤ x382 := by rw [g383]; exact E375.1
    refine blk (pc' := 35) (Ls' := #[.val (.int x), .val (.int (b0 x)), .val (.int (b1 x))]) (st' := [(.int (b0 x)), (.int (0 : Int32)), (.ref x382), (.ref x382), (.ref x373), (.ref x373)]) [oDup w380.ok (dc.g 20 rfl), oIconst w380.ok (dc.g 21 rfl), oIloadN w380.ok (dc.g 22 rfl)] rfl ?_
    refine w380.cst F385 (i := 0) rfl (by simp) (narCh ((hL.isC (b0 x) (by simp))).1 ((hL.isC (b0 x) (by simp))).2) (fitsCh ((hL.isC (b0 x) (by simp))).1 ((hL.isC (b0 x) (by simp))).2) (Nat.le_trans oz.1 hg394) (dc.g 23 rfl) ?_
    intro T395 h397 w396 W398 F399
    show Go κ _ T395 36 #[.val (.int x), .val (.int (b0 x)), .val (.int (b1 x))] [(.ref x382), (.ref x373), (.ref x373)]
    obtain ⟨slW398, vvW398, WW398⟩ := W398
    have ne405 : x373 ≠ x382 := Ne.symm (F385.ne_exa XX388 (wd hw 22 rfl))
    have SS400 := Safe.wr WW398 (F385.safe w380.alike (by decide)) w380.chv SS387
    have XX401 := XX388.wr WW398
    have FV402 := FV389.other WW398 (Or.inl ne405)
    have FC403 := FC390.other WW398 (Or.inl ne405)
    have KK404 := KK391.wr WW398 (Or.inr hg394)
    refine w396.callI rfl (wd hw 25 rfl) (wd hw 26 rfl) (wd hw 27 rfl) (by decide) (a := x373) (argsL := [(.ref x382)]) (Wd := 1) (Ctr.pays (len := 3) (Wd := 1) (c_si1 l Z a0 hw hEL hJS hJA c0 c1 c2 c3 hCT (cs := ([(b0 x)] : List Int32)) (w396.old ozs) XX401 FV402 FC403 (Nat.le_trans oz.1 hx393) F399 (by simp) hL (by simp)) w396 (wd hw 27 rfl) (wd hw 23 rfl) hEL (by decide) (by decide) (sfOne XX401.lt SS400)) pd15 rfl (st := [(.ref x373)]) rfl rfl (Nat.le_of_eq rfl) (dc.g 24 rfl) (by decide) (by decide) ?_
    intro vm406 T407 h408 v409 w410 C411 Q412
    obtain ⟨rfl, K413, FS414⟩ := Q412
    show Go κ _ T407 39 #[.val (.int x), .val (.int (b0 x)), .val (.int (b1 x))] [(.ref x373)]
    have K415 := KK404.trans K413 (allS (Or.inr hx393) all0)
    exact w410.retA rfl rfl rfl rfl (dc.g 25 rfl) (by decide) (by decide) (fun S hS => ⟨K415, _, rfl, by rw [ek]; exact FS414⟩)
def D_law : List (Nat × Instr × Nat) := [(0, .iload 4, 2), (2, .iconst 1, 1), (3, .iand, 1), (4, .ifCond .eq 7, 3), (7, .iload_n 0, 1), (8, .goto 4, 3), (11, .iload_n 1, 1), (12, .istore 5, 2), (14, .iload 4, 2), (16, .iconst 2, 1), (17, .iand, 1), (18, .ifCond .eq 7, 3), (21, .iload_n 2, 1), (22, .goto 4, 3), (25, .iload_n 3, 1), (26, .istore 6, 2), (28, .iload_n 2, 1), (29, .invokestatic 37, 3), (32, .ifCond .ne 11, 3), (35, .iload 6, 2), (37, .invokestatic 37, 3), (40, .ifCond .eq 5, 3), (43, .iconst 1, 1), (44, .ireturn, 1), (45, .iload_n 0, 1), (46, .invokestatic 40, 3), (49, .astore 7, 2), (51, .iload 5, 2), (53, .invokestatic 40, 3), (56, .astore 8, 2), (58, .iload_n 2, 1), (59, .invokestatic 44, 3), (62, .astore 9, 2), (64, .iload 6, 2), (66, .invokestatic 44, 3), (69, .astore 10, 2), (71, .new 48, 3), (74, .dup, 1), (75, .aload 7, 2), (77, .aload 9, 2), (79, .invokespecial 50, 3), (82, .astore 11, 2), (84, .new 48, 3), (87, .dup, 1), (88, .aload 8, 2), (90, .aload 10, 2), (92, .invokespecial 50, 3), (95, .astore 12, 2), (97, .iload_n 0, 1), (98, .iconst 3, 1), (99, .iand, 1), (100, .iload 5, 2), (102, .iconst 3, 1), (103, .iand, 1), (104, .if_icmp .ne 7, 3), (107, .iconst 1, 1), (108, .goto 4, 3), (111, .iconst 0, 1), (112, .istore 13, 2), (114, .iload_n 2, 1), (115, .invokestatic 22, 3), (118, .iload 6, 2), (120, .invokestatic 22, 3), (123, .if_icmp .ne 49, 3), (126, .iload_n 2, 1), (127, .sipush 255, 3), (130, .iand, 1), (131, .iload 6, 2), (133, .sipush 255, 3), (136, .iand, 1), (137, .if_icmp .ne 35, 3), (140, .iload_n 2, 1), (141, .invokestatic 22, 3), (144, .iconst 1, 1), (145, .if_icmp .eq 23, 3), (148, .iload_n 2, 1), (149, .bipush 8, 2), (151, .iushr, 1), (152, .sipush 255, 3), (155, .iand, 1), (156, .iload 6, 2), (158, .bipush 8, 2), (160, .iushr, 1), (161, .sipush 255, 3), (164, .iand, 1), (165, .if_icmp .ne 7, 3), (168, .iconst 1, 1), (169, .goto 4, 3), (172, .iconst 0, 1), (173, .istore 14, 2), (175, .iload 4, 2), (177, .iconst 2, 1), (178, .iushr, 1), (179, .iconst 3, 1), (180, .iand, 1), (181, .istore 15, 2), (183, .iload 15, 2), (185, .ifCond .ne 27, 3), (188, .aload 12, 2), (190, .astore 16, 2), (192, .iload 13, 2), (194, .ifCond .eq 12, 3), (197, .iload 14, 2), (199, .ifCond .eq 7, 3), (202, .iconst 1, 1), (203, .goto 4, 3), (206, .iconst 0, 1), (207, .istore 17, 2), (209, .goto 41, 3), (212, .iload 15, 2), (214, .iconst 1, 1), (215, .if_icmp .ne 12, 3), (218, .aconst_null, 1), (219, .astore 16, 2), (221, .iconst 0, 1), (222, .istore 17, 2), (224, .goto 26, 3), (227, .iload 15, 2), (229, .iconst 2, 1), (230, .if_icmp .ne 13, 3), (233, .aload 9, 2), (235, .astore 16, 2), (237, .iconst 0, 1), (238, .istore 17, 2), (240, .goto 10, 3), (243, .aload 11, 2), (245, .astore 16, 2), (247, .iconst 1, 1), (248, .istore 17, 2), (250, .aload 11, 2), (252, .aload 16, 2), (254, .invokevirtual 53, 3), (257, .iload 17, 2), (259, .if_icmp .ne 7, 3), (262, .iconst 1, 1), (263, .goto 4, 3), (266, .iconst 0, 1), (267, .istore 18, 2), (269, .iload 15, 2), (271, .ifCond .ne 27, 3), (274, .iload 18, 2), (276, .ifCond .eq 19, 3), (279, .aload 12, 2), (281, .aload 11, 2), (283, .invokevirtual 53, 3), (286, .iload 17, 2), (288, .if_icmp .ne 7, 3), (291, .iconst 1, 1), (292, .goto 4, 3), (295, .iconst 0, 1), (296, .istore 18, 2), (298, .iload 18, 2), (300, .ireturn, 1)]
theorem hD_law : ∀ q ∈ D_law, decode code q.1 = .ok q.2 := by decide +kernel
set_option maxRecDepth 65536 in
set_option maxHeartbeats 4000000 in
theorem c_law (l : Launch) (Z : State) (a0 : Array Value) (hw : ∀ d ∈ tables_1, d.before a0 Z = true) (hEL : EW Z a0 []) (hJS : JS Z) (hJA : JA Z) (c0 c1 c2 c3 : Addr) (hCT : CT Z c0 c1 c2 c3) {p0 p1 p2 p3 p4 : Int32} (h : Heap) (oz : Ext Z.heap h) (ws : List Jvm.Cond) : Ctr l Z [] x code maxLocals ret ws room_1 [] #[(.int p0), (.int p1), (.int p2), (.int p3), (.int p4)] h (fun v h' S => v = some (.int 1)) := by
  refine enter (a0 := a0) (by first | (simp [plainName, overriddenIn]; done) | decide +kernel) hEL (Ls := #[.val (.int p0), .val (.int p1), .val (.int p2), .val (.int p3), .val (.int p4), .unset, .unset, .unset, .unset, .unset, .unset, .unset, .unset, .unset, .unset, .unset, .unset, .unset, .unset]) (fun m => by first | (simp [entryFrame, mkF, argsToLocals, Value.category, maxLocals]; done) | rfl) ?_
  intro κ vm T hby hs w Sf
  have dc := Dec.of hby hD_law
  show Go κ (GQ κ Z [] room_1 (fun v h' S => v = some (.int 1))) T 0 #[.val (.int p0), .val (.int p1), .val (.int p2), .val (.int p3), .val (.int p4), .unset, .unset, .unset, .unset, .unset, .unset, .unset, .unset, .unset, .unset, .unset, .unset, .unset, .unset] []
  have ozs : Ext Z.heap κ.s.heap := by rw [hs]; exact oz
  suffices k14 : ∀ r5 : Int32, Go κ (GQ κ Z [] room_1 (fun v h' S => v = some (.int 1))) T 14 #[.val (.int p0), .val (.int p1), .val (.int p2), .val (.int p3), .val (.int p4), .val (.int r5), .unset, .unset, .unset, .unset, .unset, .unset, .unset, .unset, .unset, .unset, .unset, .unset, .unset] [] by
    refine blk (pc' := 4) (Ls' := #[.val (.int p0), .val (.int p1), .val (.int p2), .val (.int p3), .val (.int p4), .unset, .unset, .unset, .unset, .unset, .unset, .unset, .unset, .unset, .unset, .unset, .unset, .unset, .unset]) (st' := [(.int (p4 &&& (1 : Int32)))]) [oIload w.ok (dc.g 0 rfl), oIconst w.ok (dc.g 1 rfl), oIand w.ok (dc.g 2 rfl)] rfl ?_
    refine zEq (pc' := 11) w.ok (dc.g 3 rfl) (by decide) (by decide) (fun hc416 => ?_) (fun hc416 => ?_)
    · show Go κ _ T 11 #[.val (.int p0), .val (.int p1), .val (.int p2), .val (.int p3), .val (.int p4), .unset, .unset, .unset, .unset, .unset, .unset, .unset, .unset, .unset, .unset, .unset, .unset, .unset, .unset] []
      refine blk (pc' := 14) (Ls' := #[.val (.int p0), .val (.int p1), .val (.int p2), .val (.int p3), .val (.int p4), .val (.int p1), .unset, .unset, .unset, .unset, .unset, .unset, .unset, .unset, .unset, .unset, .unset, .unset, .unset]) (st' := []) [oIloadN w.ok (dc.g 6 rfl), oIstore w.ok (dc.g 7 rfl)] rfl ?_
      exact k14 _
    · show Go κ _ T 7 #[.val (.int p0), .val (.int p1), .val (.int p2), .val (.int p3), .val (.int p4), .unset, .unset, .unset, .unset, .unset, .unset, .unset, .unset, .unset, .unset, .unset, .unset, .unset, .unset] []
      refine blk (pc' := 14) (Ls' := #[.val (.int p0), .val (.int p1), .val (.int p2), .val (.int p3), .val (.int p4), .val (.int p0), .unset, .unset, .unset, .unset, .unset, .unset, .unset, .unset, .unset, .unset, .unset, .unset, .unset]) (st' := []) [oIloadN w.ok (dc.g 4 rfl), oGoto w.ok 12 (dc.g 5 rfl), oIstore w.ok (dc.g 7 rfl)] rfl ?_
      exact k14 _
  intro r5
  suffices k28 : ∀ r6 : Int32, Go κ (GQ κ Z [] room_1 (fun v h' S => v = some (.int 1))) T 28 #[.val (.int p0), .val (.int p1), .val (.int p2), .val (.int p3), .val (.int p4), .val (.int r5), .val (.int r6), .unset, .unset, .unset, .unset, .unset, .unset, .unset, .unset, .unset, .unset, .unset, .unset] [] by
    refine blk (pc' := 18) (Ls' := #[.val (.int p0), .val (.int p1), .val (.int p2), .val (.int p3), .val (.int p4), .val (.int r5), .unset, .unset, .unset, .unset, .unset, .unset, .unset, .unset, .unset, .unset, .unset, .unset, .unset]) (st' := [(.int (p4 &&& (2 : Int32)))]) [oIload w.ok (dc.g 8 rfl), oIconst w.ok (dc.g 9 rfl), oIand w.ok (dc.g 10 rfl)] rfl ?_
    refine zEq (pc' := 25) w.ok (dc.g 11 rfl) (by decide) (by decide) (fun hc417 => ?_) (fun hc417 => ?_)
    · show Go κ _ T 25 #[.val (.int p0), .val (.int p1), .val (.int p2), .val (.int p3), .val (.int p4), .val (.int r5), .unset, .unset, .unset, .unset, .unset, .unset, .unset, .unset, .unset, .unset, .unset, .unset, .unset] []
      refine blk (pc' := 28) (Ls' := #[.val (.int p0), .val (.int p1), .val (.int p2), .val (.int p3), .val (.int p4), .val (.int r5), .val (.int p3), .unset, .unset, .unset, .unset, .unset, .unset, .unset, .unset, .unset, .unset, .unset, .unset]) (st' := []) [oIloadN w.ok (dc.g 14 rfl), oIstore w.ok (dc.g 15 rfl)] rfl ?_
      exact k28 _
    · show Go κ _ T 21 #[.val (.int p0), .val (.int p1), .val (.int p2), .val (.int p3), .val (.int p4), .val (.int r5), .unset, .unset, .unset, .unset, .unset, .unset, .unset, .unset, .unset, .unset, .unset, .unset, .unset] []
      refine blk (pc' := 28) (Ls' := #[.val (.int p0), .val (.int p1), .val (.int p2), .val (.int p3), .val (.int p4), .val (.int r5), .val (.int p2), .unset, .unset, .unset, .unset, .unset, .unset, .unset, .unset, .unset, .unset, .unset, .unset]) (st' := []) [oIloadN w.ok (dc.g 12 rfl), oGoto w.ok 26 (dc.g 13 rfl), oIstore w.ok (dc.g 15 rfl)] rfl ?_
      exact k28 _
  intro r6
  refine blk (pc' := 29) (Ls' := #[.val (.int p0), .val (.int p1), .val (.int p2), .val (.int p3), .val (.int p4), .val (.int r5), .val (.int r6), .unset, .unset, .unset, .unset, .unset, .unset, .unset, .unset, .unset, .unset, .unset, .unset]) (st' := [(.int p2)]) [oIloadN w.ok (dc.g 16 rfl)] rfl ?_
  refine w.callS (wd hw 0 rfl) (wd hw 1 rfl) (wd hw 2 rfl) (wd hw 3 rfl) (by decide) (argsL := [(.int p2)]) (Wd := 0) (Ctr.pays (len := 3) (Wd := 0) (c_kbl l Z a0 hw hEL hJS hJA c0 c1 c2 c3 hCT) w (wd hw 3 rfl) (wd hw 2 rfl) hEL (by decide) (by decide) sfNil) pd7 rfl (st := []) rfl rfl (Nat.le_of_eq rfl) (dc.g 17 rfl) (by decide) (by decide) ?_
  intro vm418 T419 h420 v421 w422 C423 Q424
  obtain ⟨eQ424, rfl⟩ := Q424
  subst eQ424
  show Go κ _ T419 32 #[.val (.int p0), .val (.int p1), .val (.int p2), .val (.int p3), .val (.int p4), .val (.int r5), .val (.int r6), .unset, .unset, .unset, .unset, .unset, .unset, .unset, .unset, .unset, .unset, .unset, .unset] [(.int (if (kcs p2).all wsI = true then (1 : Int32) else 0))]
  by_cases hb1 : (kcs p2).all wsI = true
  · refine Go.top (y := (1 : Int32)) (if_pos hb1) ?_
    show Go κ _ T419 32 #[.val (.int p0), .val (.int p1), .val (.int p2), .val (.int p3), .val (.int p4), .val (.int r5), .val (.int r6), .unset, .unset, .unset, .unset, .unset, .unset, .unset, .unset, .unset, .unset, .unset, .unset] [(.int (1 : Int32))]
    refine zNe (pc' := 43) w422.ok (dc.g 18 rfl) (by decide) (by decide) (fun hc425 => ?_) (fun hc425 => absurd hc425 (by decide))
    show Go κ _ T419 43 #[.val (.int p0), .val (.int p1), .val (.int p2), .val (.int p3), .val (.int p4), .val (.int r5), .val (.int r6), .unset, .unset, .unset, .unset, .unset, .unset, .unset, .unset, .unset, .unset, .unset, .unset] []
    refine blk (pc' := 44) (Ls' := #[.val (.int p0), .val (.int p1), .val (.int p2), .val (.int p3), .val (.int p4), .val (.int r5), .val (.int r6), .unset, .unset, .unset, .unset, .unset, .unset, .unset, .unset, .unset, .unset, .unset, .unset]) (st' := [(.int (1 : Int32))]) [oIconst w422.ok (dc.g 22 rfl)] rfl ?_
    exact w422.retI (t := .boolean) rfl (Or.inr (Or.inl rfl)) rfl (dc.g 23 rfl) (by decide) (by decide) (fun S hS => rfl)
  refine Go.top (y := (0 : Int32)) (if_neg hb1) ?_
  show Go κ _ T419 32 #[.val (.int p0), .val (.int p1), .val (.int p2), .val (.int p3), .val (.int p4), .val (.int r5), .val (.int r6), .unset, .unset, .unset, .unset, .unset, .unset, .unset, .unset, .unset, .unset, .unset, .unset] [(.int (0 : Int32))]
  refine zNe (pc' := 43) w422.ok (dc.g 18 rfl) (by decide) (by decide) (fun hc426 => absurd rfl hc426) (fun hc426 => ?_)
  show Go κ _ T419 35 #[.val (.int p0), .val (.int p1), .val (.int p2), .val (.int p3), .val (.int p4), .val (.int r5), .val (.int r6), .unset, .unset, .unset, .unset, .unset, .unset, .unset, .unset, .unset, .unset, .unset, .unset] []
  refine blk (pc' := 37) (Ls' := #[.val (.int p0), .val (.int p1), .val (.int p2), .val (.int p3), .val (.int p4), .val (.int r5), .val (.int r6), .unset, .unset, .unset, .unset, .unset, .unset, .unset, .unset, .unset, .unset, .unset, .unset]) (st' := [(.int r6)]) [oIload w422.ok (dc.g 19 rfl)] rfl ?_
  refine w422.callS (wd hw 0 rfl) (wd hw 1 rfl) (wd hw 2 rfl) (wd hw 3 rfl) (by decide) (argsL := [(.int r6)]) (Wd := 0) (Ctr.pays (len := 3) (Wd := 0) (c_kbl l Z a0 hw hEL hJS hJA c0 c1 c2 c3 hCT) w422 (wd hw 3 rfl) (wd hw 2 rfl) hEL (by decide) (by decide) sfNil) pd7 rfl (st := []) rfl rfl (Nat.le_of_eq rfl) (dc.g 20 rfl) (by decide) (by decide) ?_
  intro vm427 T428 h429 v430 w431 C432 Q433
  obtain ⟨eQ433, rfl⟩ := Q433
  subst eQ433
  show Go κ _ T428 40 #[.val (.int p0), .val (.int p1), .val (.int p2), .val (.int p3), .val (.int p4), .val (.int r5), .val (.int r6), .unset, .unset, .unset, .unset, .unset, .unset, .unset, .unset, .unset, .unset, .unset, .unset] [(.int (if (kcs r6).all wsI = true then (1 : Int32) else 0))]
  by_cases hb2 : (kcs r6).all wsI = true
  · refine Go.top (y := (1 : Int32)) (if_pos hb2) ?_
    show Go κ _ T428 40 #[.val (.int p0), .val (.int p1), .val (.int p2), .val (.int p3), .val (.int p4), .val (.int r5), .val (.int r6), .unset, .unset, .unset, .unset, .unset, .unset, .unset, .unset, .unset, .unset, .unset, .unset] [(.int (1 : Int32))]
    refine zEq (pc' := 45) w431.ok (dc.g 21 rfl) (by decide) (by decide) (fun hc434 => absurd hc434 (by decide)) (fun hc434 => ?_)
    show Go κ _ T428 43 #[.val (.int p0), .val (.int p1), .val (.int p2), .val (.int p3), .val (.int p4), .val (.int r5), .val (.int r6), .unset, .unset, .unset, .unset, .unset, .unset, .unset, .unset, .unset, .unset, .unset, .unset] []
    refine blk (pc' := 44) (Ls' := #[.val (.int p0), .val (.int p1), .val (.int p2), .val (.int p3), .val (.int p4), .val (.int r5), .val (.int r6), .unset, .unset, .unset, .unset, .unset, .unset, .unset, .unset, .unset, .unset, .unset, .unset]) (st' := [(.int (1 : Int32))]) [oIconst w431.ok (dc.g 22 rfl)] rfl ?_
    exact w431.retI (t := .boolean) rfl (Or.inr (Or.inl rfl)) rfl (dc.g 23 rfl) (by decide) (by decide) (fun S hS => rfl)
  refine Go.top (y := (0 : Int32)) (if_neg hb2) ?_
  show Go κ _ T428 40 #[.val (.int p0), .val (.int p1), .val (.int p2), .val (.int p3), .val (.int p4), .val (.int r5), .val (.int r6), .unset, .unset, .unset, .unset, .unset, .unset, .unset, .unset, .unset, .unset, .unset, .unset] [(.int (0 : Int32))]
  refine zEq (pc' := 45) w431.ok (dc.g 21 rfl) (by decide) (by decide) (fun hc435 => ?_) (fun hc435 => absurd rfl hc435)
  show Go κ _ T428 45 #[.val (.int p0), .val (.int p1), .val (.int p2), .val (.int p3), .val (.int p4), .val (.int r5), .val (.int r6), .unset, .unset, .unset, .unset, .unset, .unset, .unset, .unset, .unset, .unset, .unset, .unset] []
  refine blk (pc' := 46) (Ls' := #[.val (.int p0), .val (.int p1), .val (.int p2), .val (.int p3), .val (.int p4), .val (.int r5), .val (.int r6), .unset, .unset, .unset, .unset, .unset, .unset, .unset, .unset, .unset, .unset, .unset, .unset]) (st' := [(.int p0)]) [oIloadN w431.ok (dc.g 24 rfl)] rfl ?_
  refine w431.callS (wd hw 10 rfl) (wd hw 11 rfl) (wd hw 2 rfl) (wd hw 12 rfl) (by decide) (argsL := [(.int p0)]) (Wd := 0) (Ctr.pays (len := 3) (Wd := 0) (c_kct l Z a0 hw hEL hJS hJA c0 c1 c2 c3 hCT oz) w431 (wd hw 12 rfl) (wd hw 2 rfl) hEL (by decide) (by decide) sfNil) pd16 rfl (st := []) rfl rfl (Nat.le_of_eq rfl) (dc.g 25 rfl) (by decide) (by decide) ?_
  intro vm436 T437 h438 v439 w440 C441 Q442
  obtain ⟨eQ442, rfl⟩ := Q442
  subst eQ442
  show Go κ _ T437 49 #[.val (.int p0), .val (.int p1), .val (.int p2), .val (.int p3), .val (.int p4), .val (.int r5), .val (.int r6), .unset, .unset, .unset, .unset, .unset, .unset, .unset, .unset, .unset, .unset, .unset, .unset] [(.ref (ct c0 c1 c2 c3 (p0 &&& 3)))]
  refine blk (pc' := 53) (Ls' := #[.val (.int p0), .val (.int p1), .val (.int p2), .val (.int p3), .val (.int p4), .val (.int r5), .val (.int r6), .val (.ref (ct c0 c1 c2 c3 (p0 &&& 3))), .unset, .unset, .unset, .unset, .unset, .unset, .unset, .unset, .unset, .unset, .unset]) (st' := [(.int r5)]) [oAstore w440.ok (dc.g 26 rfl), oIload w440.ok (dc.g 27 rfl)] rfl ?_
  refine w440.callS (wd hw 10 rfl) (wd hw 11 rfl) (wd hw 2 rfl) (wd hw 12 rfl) (by decide) (argsL := [(.int r5)]) (Wd := 0) (Ctr.pays (len := 3) (Wd := 0) (c_kct l Z a0 hw hEL hJS hJA c0 c1 c2 c3 hCT oz) w440 (wd hw 12 rfl) (wd hw 2 rfl) hEL (by decide) (by decide) sfNil) pd16 rfl (st := []) rfl rfl (Nat.le_of_eq rfl) (dc.g 28 rfl) (by decide) (by decide) ?_
  intro vm443 T444 h445 v446 w447 C448 Q449
  obtain ⟨eQ449, rfl⟩ := Q449
  subst eQ449
  show Go κ _ T444 56 #[.val (.int p0), .val (.int p1), .val (.int p2), .val (.int p3), .val (.int p4), .val (.int r5), .val (.int r6), .val (.ref (ct c0 c1 c2 c3 (p0 &&& 3))), .unset, .unset, .unset, .unset, .unset, .unset, .unset, .unset, .unset, .unset, .unset] [(.ref (ct c0 c1 c2 c3 (r5 &&& 3)))]
  refine blk (pc' := 59) (Ls' := #[.val (.int p0), .val (.int p1), .val (.int p2), .val (.int p3), .val (.int p4), .val (.int r5), .val (.int r6), .val (.ref (ct c0 c1 c2 c3 (p0 &&& 3))), .val (.ref (ct c0 c1 c2 c3 (r5 &&& 3))), .unset, .unset, .unset, .unset, .unset, .unset, .unset, .unset, .unset, .unset]) (st' := [(.int p2)]) [oAstore w447.ok (dc.g 29 rfl), oIloadN w447.ok (dc.g 30 rfl)] rfl ?_
  have XC : ∀ z : Int32, Exa Z Z.heap (ct c0 c1 c2 c3 (z &&& 3)) "com/example/faturista/faturista/engine/missedcharges/ChargeCategory" := fun z => by
    obtain ⟨⟨-, z0⟩, ⟨-, z1⟩, ⟨-, z2⟩, ⟨-, z3⟩, -⟩ := id hCT
    rcases and3 z with q | q | q | q <;> rw [q]
    · exact z0
    · exact z1
    · exact z2
    · exact z3
  have ee := ct_eq hCT.2.2.2.2 p0 r5
  refine w447.callS (wd hw 18 rfl) (wd hw 19 rfl) (wd hw 2 rfl) (wd hw 20 rfl) (by decide) (argsL := [(.int p2)]) (Wd := 0) (Ctr.pays (len := 3) (Wd := 0) (c_key l Z a0 hw hEL hJS hJA c0 c1 c2 c3 hCT oz) w447 (wd hw 20 rfl) (wd hw 2 rfl) hEL (by decide) (by decide) sfNil) pd17 rfl (st := []) rfl rfl (Nat.le_of_eq rfl) (dc.g 31 rfl) (by decide) (by decide) ?_
  intro vm450 T451 h452 v453 w454 C455 Q456
  obtain ⟨K1, u1, rfl, S1⟩ := Q456
  show Go κ _ T451 62 #[.val (.int p0), .val (.int p1), .val (.int p2), .val (.int p3), .val (.int p4), .val (.int r5), .val (.int r6), .val (.ref (ct c0 c1 c2 c3 (p0 &&& 3))), .val (.ref (ct c0 c1 c2 c3 (r5 &&& 3))), .unset, .unset, .unset, .unset, .unset, .unset, .unset, .unset, .unset, .unset] [(.ref u1)]
  refine blk (pc' := 66) (Ls' := #[.val (.int p0), .val (.int p1), .val (.int p2), .val (.int p3), .val (.int p4), .val (.int r5), .val (.int r6), .val (.ref (ct c0 c1 c2 c3 (p0 &&& 3))), .val (.ref (ct c0 c1 c2 c3 (r5 &&& 3))), .val (.ref u1), .unset, .unset, .unset, .unset, .unset, .unset, .unset, .unset, .unset]) (st' := [(.int r6)]) [oAstore w454.ok (dc.g 32 rfl), oIload w454.ok (dc.g 33 rfl)] rfl ?_
  refine w454.callS (wd hw 18 rfl) (wd hw 19 rfl) (wd hw 2 rfl) (wd hw 20 rfl) (by decide) (argsL := [(.int r6)]) (Wd := 0) (Ctr.pays (len := 3) (Wd := 0) (c_key l Z a0 hw hEL hJS hJA c0 c1 c2 c3 hCT (w454.old ozs)) w454 (wd hw 20 rfl) (wd hw 2 rfl) hEL (by decide) (by decide) sfNil) pd17 rfl (st := []) rfl rfl (Nat.le_of_eq rfl) (dc.g 34 rfl) (by decide) (by decide) ?_
  intro vm457 T458 h459 v460 w461 C462 Q463
  obtain ⟨K2, u2, rfl, S2⟩ := Q463
  show Go κ _ T458 69 #[.val (.int p0), .val (.int p1), .val (.int p2), .val (.int p3), .val (.int p4), .val (.int r5), .val (.int r6), .val (.ref (ct c0 c1 c2 c3 (p0 &&& 3))), .val (.ref (ct c0 c1 c2 c3 (r5 &&& 3))), .val (.ref u1), .unset, .unset, .unset, .unset, .unset, .unset, .unset, .unset, .unset] [(.ref u2)]
  have S1 := S1.ext (Keep.toExt K2)
  refine blk (pc' := 71) (Ls' := #[.val (.int p0), .val (.int p1), .val (.int p2), .val (.int p3), .val (.int p4), .val (.int r5), .val (.int r6), .val (.ref (ct c0 c1 c2 c3 (p0 &&& 3))), .val (.ref (ct c0 c1 c2 c3 (r5 &&& 3))), .val (.ref u1), .val (.ref u2), .unset, .unset, .unset, .unset, .unset, .unset, .unset, .unset]) (st' := []) [oAstore w461.ok (dc.g 35 rfl)] rfl ?_
  have oz1 := w461.old ozs
  refine w461.new (wd hw 51 rfl) (wd hw 52 rfl) (wd hw 53 rfl) (dc.g 36 rfl) (by decide) (by decide) ?_
  intro T464 h466 x467 w465 g468 E469 X470 D471 S472
  show Go κ _ T464 74 #[.val (.int p0), .val (.int p1), .val (.int p2), .val (.int p3), .val (.int p4), .val (.int r5), .val (.int r6), .val (.ref (ct c0 c1 c2 c3 (p0 &&& 3))), .val (.ref (ct c0 c1 c2 c3 (r5 &&& 3))), .val (.ref u1), .val (.ref u2), .unset, .unset, .unset, .unset, .unset, .unset, .unset, .unset] [(.ref x467)]
  have S1 := S1.ext E469
  have S2 := S2.ext E469
  refine blk (pc' := 79) (Ls' := #[.val (.int p0), .val (.int p1), .val (.int p2), .val (.int p3), .val (.int p4), .val (.int r5), .val (.int r6), .val (.ref (ct c0 c1 c2 c3 (p0 &&& 3))), .val (.ref (ct c0 c1 c2 c3 (r5 &&& 3))), .val (.ref u1), .val (.ref u2), .unset, .unset, .unset, .unset, .unset, .unset, .unset, .unset]) (st' := [(.ref u1), (.ref (ct c0 c1 c2 c3 (p0 &&& 3))), (.ref x467), (.ref x467)]) [oDup w465.ok (dc.g 37 rfl), oAload w465.ok (dc.g 38 rfl), oAload w465.ok (dc.g 39 rfl)] rfl ?_
  refine w465.callI rfl (wd hw 54 rfl) (wd hw 55 rfl) (wd hw 56 rfl) (by decide) (a := x467) (argsL := [(.ref (ct c0 c1 c2 c3 (p0 &&& 3))), (.ref u1)]) (Wd := 1) (Ctr.pays (len := 3) (Wd := 1) (c_bl l Z a0 hw hEL hJS hJA c0 c1 c2 c3 hCT (w465.old ozs) (by rw [g468]; exact oz1.1) X470 (D471 (Or.inr (wd hw 68 rfl)) (ty := (.object "com/example/faturista/faturista/engine/missedcharges/ChargeCategory")) (by decide)) (D471 (Or.inr (wd hw 120 rfl)) (ty := (.object "java/lang/String")) (by decide)) ((XC p0).ext (w465.old ozs)) S1 (kcs_L p2) hb1) w465 (wd hw 56 rfl) (wd hw 53 rfl) hEL (by decide) (by decide) sfNil) pd18 rfl (st := [(.ref x467)]) rfl rfl (Nat.le_of_eq rfl) (dc.g 40 rfl) (by decide) (by decide) ?_
  intro vm473 T474 h475 v476 w477 C478 Q479
  obtain ⟨rfl, KB1, XB1, A1, B1⟩ := Q479
  show Go κ _ T474 82 #[.val (.int p0), .val (.int p1), .val (.int p2), .val (.int p3), .val (.int p4), .val (.int r5), .val (.int r6), .val (.ref (ct c0 c1 c2 c3 (p0 &&& 3))), .val (.ref (ct c0 c1 c2 c3 (r5 &&& 3))), .val (.ref u1), .val (.ref u2), .unset, .unset, .unset, .unset, .unset, .unset, .unset, .unset] [(.ref x467)]
  have S1 := S1.keepObj KB1 X470 (by decide) (wd hw 52 rfl)
  have S2 := S2.keepObj KB1 X470 (by decide) (wd hw 52 rfl)
  refine blk (pc' := 84) (Ls' := #[.val (.int p0), .val (.int p1), .val (.int p2), .val (.int p3), .val (.int p4), .val (.int r5), .val (.int r6), .val (.ref (ct c0 c1 c2 c3 (p0 &&& 3))), .val (.ref (ct c0 c1 c2 c3 (r5 &&& 3))), .val (.ref u1), .val (.ref u2), .val (.ref x467), .unset, .unset, .unset, .unset, .unset, .unset, .unset]) (st' := []) [oAstore w477.ok (dc.g 41 rfl)] rfl ?_
  have hx1 := XB1.lt
  have oz2 := w477.old ozs
  refine w477.new (wd hw 51 rfl) (wd hw 52 rfl) (wd hw 53 rfl) (dc.g 42 rfl) (by decide) (by decide) ?_
  intro T480 h482 x483 w481 g484 E485 X486 D487 S488
  show Go κ _ T480 87 #[.val (.int p0), .val (.int p1), .val (.int p2), .val (.int p3), .val (.int p4), .val (.int r5), .val (.int r6), .val (.ref (ct c0 c1 c2 c3 (p0 &&& 3))), .val (.ref (ct c0 c1 c2 c3 (r5 &&& 3))), .val (.ref u1), .val (.ref u2), .val (.ref x467), .unset, .unset, .unset, .unset, .unset, .unset, .unset] [(.ref x483)]
  have S1 := S1.ext E485
  have S2 := S2.ext E485
  refine blk (pc' := 92) (Ls' := #[.val (.int p0), .val (.int p1), .val (.int p2), .val (.int p3), .val (.int p4), .val (.int r5), .val (.int r6), .val (.ref (ct c0 c1 c2 c3 (p0 &&& 3))), .val (.ref (ct c0 c1 c2 c3 (r5 &&& 3))), .val (.ref u1), .val (.ref u2), .val (.ref x467), .unset, .unset, .unset, .unset, .unset, .unset, .unset]) (st' := [(.ref u2), (.ref (ct c0 c1 c2 c3 (r5 &&& 3))), (.ref x483), (.ref x483)]) [oDup w481.ok (dc.g 43 rfl), oAload w481.ok (dc.g 44 rfl), oAload w481.ok (dc.g 45 rfl)] rfl ?_
  refine w481.callI rfl (wd hw 54 rfl) (wd hw 55 rfl) (wd hw 56 rfl) (by decide) (a := x483) (argsL := [(.ref (ct c0 c1 c2 c3 (r5 &&& 3))), (.ref u2)]) (Wd := 1) (Ctr.pays (len := 3) (Wd := 1) (c_bl l Z a0 hw hEL hJS hJA c0 c1 c2 c3 hCT (w481.old ozs) (by rw [g484]; exact oz2.1) X486 (D487 (Or.inr (wd hw 68 rfl)) (ty := (.object "com/example/faturista/faturista/engine/missedcharges/ChargeCategory")) (by decide)) (D487 (Or.inr (wd hw 120 rfl)) (ty := (.object "java/lang/String")) (by decide)) ((XC r5).ext (w481.old ozs)) S2 (kcs_L r6) hb2) w481 (wd hw 56 rfl) (wd hw 53 rfl) hEL (by decide) (by decide) sfNil) pd18 rfl (st := [(.ref x483)]) rfl rfl (Nat.le_of_eq rfl) (dc.g 46 rfl) (by decide) (by decide) ?_
  intro vm489 T490 h491 v492 w493 C494 Q495
  obtain ⟨rfl, KB2, XB2, A2, B2⟩ := Q495
  show Go κ _ T490 95 #[.val (.int p0), .val (.int p1), .val (.int p2), .val (.int p3), .val (.int p4), .val (.int r5), .val (.int r6), .val (.ref (ct c0 c1 c2 c3 (p0 &&& 3))), .val (.ref (ct c0 c1 c2 c3 (r5 &&& 3))), .val (.ref u1), .val (.ref u2), .val (.ref x467), .unset, .unset, .unset, .unset, .unset, .unset, .unset] [(.ref x483)]
  have S1 := S1.keepObj KB2 X486 (by decide) (wd hw 52 rfl)
  have S2 := S2.keepObj KB2 X486 (by decide) (wd hw 52 rfl)
  have hne : x467 ∉ [x483] := ninS (fun q => by rw [q, g484] at hx1; exact absurd hx1 (Nat.lt_irrefl _)) nin0
  have A1 := (A1.ext E485).keep KB2 hne
  have B1 := (B1.ext E485).keep KB2 hne
  have XB1 := (XB1.ext E485).keep KB2
  refine blk (pc' := 97) (Ls' := #[.val (.int p0), .val (.int p1), .val (.int p2), .val (.int p3), .val (.int p4), .val (.int r5), .val (.int r6), .val (.ref (ct c0 c1 c2 c3 (p0 &&& 3))), .val (.ref (ct c0 c1 c2 c3 (r5 &&& 3))), .val (.ref u1), .val (.ref u2), .val (.ref x467), .val (.ref x483), .unset, .unset, .unset, .unset, .unset, .unset]) (st' := []) [oAstore w493.ok (dc.g 47 rfl)] rfl ?_
  suffices k114 : ∀ r13 : Int32, r13 = (if (p0 &&& (3 : Int32)) = (r5 &&& (3 : Int32)) then 1 else 0) → Go κ (GQ κ Z [] room_1 (fun v h' S => v = some (.int 1))) T490 114 #[.val (.int p0), .val (.int p1), .val (.int p2), .val (.int p3), .val (.int p4), .val (.int r5), .val (.int r6), .val (.ref (ct c0 c1 c2 c3 (p0 &&& 3))), .val (.ref (ct c0 c1 c2 c3 (r5 &&& 3))), .val (.ref u1), .val (.ref u2), .val (.ref x467), .val (.ref x483), .val (.int r13), .unset, .unset, .unset, .unset, .unset] [] by
    refine blk (pc' := 104) (Ls' := #[.val (.int p0), .val (.int p1), .val (.int p2), .val (.int p3), .val (.int p4), .val (.int r5), .val (.int r6), .val (.ref (ct c0 c1 c2 c3 (p0 &&& 3))), .val (.ref (ct c0 c1 c2 c3 (r5 &&& 3))), .val (.ref u1), .val (.ref u2), .val (.ref x467), .val (.ref x483), .unset, .unset, .unset, .unset, .unset, .unset]) (st' := [(.int (r5 &&& (3 : Int32))), (.int (p0 &&& (3 : Int32)))]) [oIloadN w493.ok (dc.g 48 rfl), oIconst w493.ok (dc.g 49 rfl), oIand w493.ok (dc.g 50 rfl), oIload w493.ok (dc.g 51 rfl), oIconst w493.ok (dc.g 52 rfl), oIand w493.ok (dc.g 53 rfl)] rfl ?_
    refine cNe (pc' := 111) w493.ok (dc.g 54 rfl) (by decide) (by decide) (fun hc496 => ?_) (fun hc496 => ?_)
    · show Go κ _ T490 111 #[.val (.int p0), .val (.int p1), .val (.int p2), .val (.int p3), .val (.int p4), .val (.int r5), .val (.int r6), .val (.ref (ct c0 c1 c2 c3 (p0 &&& 3))), .val (.ref (ct c0 c1 c2 c3 (r5 &&& 3))), .val (.ref u1), .val (.ref u2), .val (.ref x467), .val (.ref x483), .unset, .unset, .unset, .unset, .unset, .unset] []
      refine blk (pc' := 114) (Ls' := #[.val (.int p0), .val (.int p1), .val (.int p2), .val (.int p3), .val (.int p4), .val (.int r5), .val (.int r6), .val (.ref (ct c0 c1 c2 c3 (p0 &&& 3))), .val (.ref (ct c0 c1 c2 c3 (r5 &&& 3))), .val (.ref u1), .val (.ref u2), .val (.ref x467), .val (.ref x483), .val (.int (0 : Int32)), .unset, .unset, .unset, .unset, .unset]) (st' := []) [oIconst w493.ok (dc.g 57 rfl), oIstore w493.ok (dc.g 58 rfl)] rfl ?_
      exact k114 _ (by rw [if_neg hc496])
    · show Go κ _ T490 107 #[.val (.int p0), .val (.int p1), .val (.int p2), .val (.int p3), .val (.int p4), .val (.int r5), .val (.int r6), .val (.ref (ct c0 c1 c2 c3 (p0 &&& 3))), .val (.ref (ct c0 c1 c2 c3 (r5 &&& 3))), .val (.ref u1), .val (.ref u2), .val (.ref x467), .val (.ref x483), .unset, .unset, .unset, .unset, .unset, .unset] []
      refine blk (pc' := 114) (Ls' := #[.val (.int p0), .val (.int p1), .val (.int p2), .val (.int p3), .val (.int p4), .val (.int r5), .val (.int r6), .val (.ref (ct c0 c1 c2 c3 (p0 &&& 3))), .val (.ref (ct c0 c1 c2 c3 (r5 &&& 3))), .val (.ref u1), .val (.ref u2), .val (.ref x467), .val (.ref x483), .val (.int (1 : Int32)), .unset, .unset, .unset, .unset, .unset]) (st' := []) [oIconst w493.ok (dc.g 55 rfl), oGoto w493.ok 112 (dc.g 56 rfl), oIstore w493.ok (dc.g 58 rfl)] rfl ?_
      exact k114 _ (by rw [if_pos hc496])
  intro r13 hr13
  show Go κ _ T490 114 #[.val (.int p0), .val (.int p1), .val (.int p2), .val (.int p3), .val (.int p4), .val (.int r5), .val (.int r6), .val (.ref (ct c0 c1 c2 c3 (p0 &&& 3))), .val (.ref (ct c0 c1 c2 c3 (r5 &&& 3))), .val (.ref u1), .val (.ref u2), .val (.ref x467), .val (.ref x483), .val (.int r13), .unset, .unset, .unset, .unset, .unset] []
  have wty := w493
  suffices k175 : ∀ (r14 : Int32) (vm497 : Vm) (T498 : State), r14 = (if kcs p2 = kcs r6 then 1 else 0) → W κ l room_1 Z [] "com/example/faturista/faturista/engine/missedcharges/BilledLineEqualsPinLaw" "law" maxLocals ret vm497 T498 h491 16 128 → Go κ (GQ κ Z [] room_1 (fun v h' S => v = some (.int 1))) T498 175 #[.val (.int p0), .val (.int p1), .val (.int p2), .val (.int p3), .val (.int p4), .val (.int r5), .val (.int r6), .val (.ref (ct c0 c1 c2 c3 (p0 &&& 3))), .val (.ref (ct c0 c1 c2 c3 (r5 &&& 3))), .val (.ref u1), .val (.ref u2), .val (.ref x467), .val (.ref x483), .val (.int r13), .val (.int r14), .unset, .unset, .unset, .unset] [] by
    refine blk (pc' := 115) (Ls' := #[.val (.int p0), .val (.int p1), .val (.int p2), .val (.int p3), .val (.int p4), .val (.int r5), .val (.int r6), .val (.ref (ct c0 c1 c2 c3 (p0 &&& 3))), .val (.ref (ct c0 c1 c2 c3 (r5 &&& 3))), .val (.ref u1), .val (.ref u2), .val (.ref x467), .val (.ref x483), .val (.int r13), .unset, .unset, .unset, .unset, .unset]) (st' := [(.int p2)]) [oIloadN w493.ok (dc.g 59 rfl)] rfl ?_
    refine w493.callS (wd hw 4 rfl) (wd hw 5 rfl) (wd hw 2 rfl) (wd hw 6 rfl) (by decide) (argsL := [(.int p2)]) (Wd := 0) (Ctr.pays (len := 3) (Wd := 0) (c_klen l Z a0 hw hEL hJS hJA c0 c1 c2 c3 hCT) w493 (wd hw 6 rfl) (wd hw 2 rfl) hEL (by decide) (by decide) sfNil) pd5 rfl (st := []) rfl rfl (Nat.le_of_eq rfl) (dc.g 60 rfl) (by decide) (by decide) ?_
    intro vm500 T501 h502 v503 w504 C505 Q506
    obtain ⟨eQ506, rfl⟩ := Q506
    subst eQ506
    show Go κ _ T501 118 #[.val (.int p0), .val (.int p1), .val (.int p2), .val (.int p3), .val (.int p4), .val (.int r5), .val (.int r6), .val (.ref (ct c0 c1 c2 c3 (p0 &&& 3))), .val (.ref (ct c0 c1 c2 c3 (r5 &&& 3))), .val (.ref u1), .val (.ref u2), .val (.ref x467), .val (.ref x483), .val (.int r13), .unset, .unset, .unset, .unset, .unset] [(.int (kl p2))]
    refine blk (pc' := 120) (Ls' := #[.val (.int p0), .val (.int p1), .val (.int p2), .val (.int p3), .val (.int p4), .val (.int r5), .val (.int r6), .val (.ref (ct c0 c1 c2 c3 (p0 &&& 3))), .val (.ref (ct c0 c1 c2 c3 (r5 &&& 3))), .val (.ref u1), .val (.ref u2), .val (.ref x467), .val (.ref x483), .val (.int r13), .unset, .unset, .unset, .unset, .unset]) (st' := [(.int r6), (.int (kl p2))]) [oIload w504.ok (dc.g 61 rfl)] rfl ?_
    refine w504.callS (wd hw 4 rfl) (wd hw 5 rfl) (wd hw 2 rfl) (wd hw 6 rfl) (by decide) (argsL := [(.int r6)]) (Wd := 1) (Ctr.pays (len := 3) (Wd := 1) (c_klen l Z a0 hw hEL hJS hJA c0 c1 c2 c3 hCT) w504 (wd hw 6 rfl) (wd hw 2 rfl) hEL (by decide) (by decide) sfNil) pd5 rfl (st := [(.int (kl p2))]) rfl rfl (Nat.le_of_eq rfl) (dc.g 62 rfl) (by decide) (by decide) ?_
    intro vm507 T508 h509 v510 w511 C512 Q513
    obtain ⟨eQ513, rfl⟩ := Q513
    subst eQ513
    show Go κ _ T508 123 #[.val (.int p0), .val (.int p1), .val (.int p2), .val (.int p3), .val (.int p4), .val (.int r5), .val (.int r6), .val (.ref (ct c0 c1 c2 c3 (p0 &&& 3))), .val (.ref (ct c0 c1 c2 c3 (r5 &&& 3))), .val (.ref u1), .val (.ref u2), .val (.ref x467), .val (.ref x483), .val (.int r13), .unset, .unset, .unset, .unset, .unset] [(.int (kl r6)), (.int (kl p2))]
    refine cNe (pc' := 172) w511.ok (dc.g 63 rfl) (by decide) (by decide) (fun hc514 => ?_) (fun hc514 => ?_)
    · show Go κ _ T508 172 #[.val (.int p0), .val (.int p1), .val (.int p2), .val (.int p3), .val (.int p4), .val (.int r5), .val (.int r6), .val (.ref (ct c0 c1 c2 c3 (p0 &&& 3))), .val (.ref (ct c0 c1 c2 c3 (r5 &&& 3))), .val (.ref u1), .val (.ref u2), .val (.ref x467), .val (.ref x483), .val (.int r13), .unset, .unset, .unset, .unset, .unset] []
      refine blk (pc' := 175) (Ls' := #[.val (.int p0), .val (.int p1), .val (.int p2), .val (.int p3), .val (.int p4), .val (.int r5), .val (.int r6), .val (.ref (ct c0 c1 c2 c3 (p0 &&& 3))), .val (.ref (ct c0 c1 c2 c3 (r5 &&& 3))), .val (.ref u1), .val (.ref u2), .val (.ref x467), .val (.ref x483), .val (.int r13), .val (.int (0 : Int32)), .unset, .unset, .unset, .unset]) (st' := []) [oIconst w511.ok (dc.g 88 rfl), oIstore w511.ok (dc.g 89 rfl)] rfl ?_
      exact k175 _ _ _ (by rw [if_neg (fun q => hc514 (kcs_eq.mp q).1)]) (w511.mono (by decide) (by decide))
    · show Go κ _ T508 126 #[.val (.int p0), .val (.int p1), .val (.int p2), .val (.int p3), .val (.int p4), .val (.int r5), .val (.int r6), .val (.ref (ct c0 c1 c2 c3 (p0 &&& 3))), .val (.ref (ct c0 c1 c2 c3 (r5 &&& 3))), .val (.ref u1), .val (.ref u2), .val (.ref x467), .val (.ref x483), .val (.int r13), .unset, .unset, .unset, .unset, .unset] []
      refine blk (pc' := 137) (Ls' := #[.val (.int p0), .val (.int p1), .val (.int p2), .val (.int p3), .val (.int p4), .val (.int r5), .val (.int r6), .val (.ref (ct c0 c1 c2 c3 (p0 &&& 3))), .val (.ref (ct c0 c1 c2 c3 (r5 &&& 3))), .val (.ref u1), .val (.ref u2), .val (.ref x467), .val (.ref x483), .val (.int r13), .unset, .unset, .unset, .unset, .unset]) (st' := [(.int (r6 &&& (255 : Int32))), (.int (p2 &&& (255 : Int32)))]) [oIloadN w511.ok (dc.g 64 rfl), oSipush w511.ok (dc.g 65 rfl), oIand w511.ok (dc.g 66 rfl), oIload w511.ok (dc.g 67 rfl), oSipush w511.ok (dc.g 68 rfl), oIand w511.ok (dc.g 69 rfl)] rfl ?_
      show Go κ _ T508 137 #[.val (.int p0), .val (.int p1), .val (.int p2), .val (.int p3), .val (.int p4), .val (.int r5), .val (.int r6), .val (.ref (ct c0 c1 c2 c3 (p0 &&& 3))), .val (.ref (ct c0 c1 c2 c3 (r5 &&& 3))), .val (.ref u1), .val (.ref u2), .val (.ref x467), .val (.ref x483), .val (.int r13), .unset, .unset, .unset, .unset, .unset] [(.int (b0 r6)), (.int (b0 p2))]
      refine cNe (pc' := 172) w511.ok (dc.g 70 rfl) (by decide) (by decide) (fun hc515 => ?_) (fun hc515 => ?_)
      · show Go κ _ T508 172 #[.val (.int p0), .val (.int p1), .val (.int p2), .val (.int p3), .val (.int p4), .val (.int r5), .val (.int r6), .val (.ref (ct c0 c1 c2 c3 (p0 &&& 3))), .val (.ref (ct c0 c1 c2 c3 (r5 &&& 3))), .val (.ref u1), .val (.ref u2), .val (.ref x467), .val (.ref x483), .val (.int r13), .unset, .unset, .unset, .unset, .unset] []
        refine blk (pc' := 175) (Ls' := #[.val (.int p0), .val (.int p1), .val (.int p2), .val (.int p3), .val (.int p4), .val (.int r5), .val (.int r6), .val (.ref (ct c0 c1 c2 c3 (p0 &&& 3))), .val (.ref (ct c0 c1 c2 c3 (r5 &&& 3))), .val (.ref u1), .val (.ref u2), .val (.ref x467), .val (.ref x483), .val (.int r13), .val (.int (0 : Int32)), .unset, .unset, .unset, .unset]) (st' := []) [oIconst w511.ok (dc.g 88 rfl), oIstore w511.ok (dc.g 89 rfl)] rfl ?_
        exact k175 _ _ _ (by rw [if_neg (fun q => hc515 (kcs_eq.mp q).2.1)]) (w511.mono (by decide) (by decide))
      · show Go κ _ T508 140 #[.val (.int p0), .val (.int p1), .val (.int p2), .val (.int p3), .val (.int p4), .val (.int r5), .val (.int r6), .val (.ref (ct c0 c1 c2 c3 (p0 &&& 3))), .val (.ref (ct c0 c1 c2 c3 (r5 &&& 3))), .val (.ref u1), .val (.ref u2), .val (.ref x467), .val (.ref x483), .val (.int r13), .unset, .unset, .unset, .unset, .unset] []
        refine blk (pc' := 141) (Ls' := #[.val (.int p0), .val (.int p1), .val (.int p2), .val (.int p3), .val (.int p4), .val (.int r5), .val (.int r6), .val (.ref (ct c0 c1 c2 c3 (p0 &&& 3))), .val (.ref (ct c0 c1 c2 c3 (r5 &&& 3))), .val (.ref u1), .val (.ref u2), .val (.ref x467), .val (.ref x483), .val (.int r13), .unset, .unset, .unset, .unset, .unset]) (st' := [(.int p2)]) [oIloadN w511.ok (dc.g 71 rfl)] rfl ?_
        refine w511.callS (wd hw 4 rfl) (wd hw 5 rfl) (wd hw 2 rfl) (wd hw 6 rfl) (by decide) (argsL := [(.int p2)]) (Wd := 0) (Ctr.pays (len := 3) (Wd := 0) (c_klen l Z a0 hw hEL hJS hJA c0 c1 c2 c3 hCT) w511 (wd hw 6 rfl) (wd hw 2 rfl) hEL (by decide) (by decide) sfNil) pd5 rfl (st := []) rfl rfl (Nat.le_of_eq rfl) (dc.g 72 rfl) (by decide) (by decide) ?_
        intro vm516 T517 h518 v519 w520 C521 Q522
        obtain ⟨eQ522, rfl⟩ := Q522
        subst eQ522
        show Go κ _ T517 144 #[.val (.int p0), .val (.int p1), .val (.int p2), .val (.int p3), .val (.int p4), .val (.int r5), .val (.int r6), .val (.ref (ct c0 c1 c2 c3 (p0 &&& 3))), .val (.ref (ct c0 c1 c2 c3 (r5 &&& 3))), .val (.ref u1), .val (.ref u2), .val (.ref x467), .val (.ref x483), .val (.int r13), .unset, .unset, .unset, .unset, .unset] [(.int (kl p2))]
        refine blk (pc' := 145) (Ls' := #[.val (.int p0), .val (.int p1), .val (.int p2), .val (.int p3), .val (.int p4), .val (.int r5), .val (.int r6), .val (.ref (ct c0 c1 c2 c3 (p0 &&& 3))), .val (.ref (ct c0 c1 c2 c3 (r5 &&& 3))), .val (.ref u1), .val (.ref u2), .val (.ref x467), .val (.ref x483), .val (.int r13), .unset, .unset, .unset, .unset, .unset]) (st' := [(.int (1 : Int32)), (.int (kl p2))]) [oIconst w520.ok (dc.g 73 rfl)] rfl ?_
        refine cEq (pc' := 168) w520.ok (dc.g 74 rfl) (by decide) (by decide) (fun hc523 => ?_) (fun hc523 => ?_)
        · show Go κ _ T517 168 #[.val (.int p0), .val (.int p1), .val (.int p2), .val (.int p3), .val (.int p4), .val (.int r5), .val (.int r6), .val (.ref (ct c0 c1 c2 c3 (p0 &&& 3))), .val (.ref (ct c0 c1 c2 c3 (r5 &&& 3))), .val (.ref u1), .val (.ref u2), .val (.ref x467), .val (.ref x483), .val (.int r13), .unset, .unset, .unset, .unset, .unset] []
          refine blk (pc' := 175) (Ls' := #[.val (.int p0), .val (.int p1), .val (.int p2), .val (.int p3), .val (.int p4), .val (.int r5), .val (.int r6), .val (.ref (ct c0 c1 c2 c3 (p0 &&& 3))), .val (.ref (ct c0 c1 c2 c3 (r5 &&& 3))), .val (.ref u1), .val (.ref u2), .val (.ref x467), .val (.ref x483), .val (.int r13), .val (.int (1 : Int32)), .unset, .unset, .unset, .unset]) (st' := []) [oIconst w520.ok (dc.g 86 rfl), oGoto w520.ok 173 (dc.g 87 rfl), oIstore w520.ok (dc.g 89 rfl)] rfl ?_
          exact k175 _ _ _ (by rw [if_pos (kcs_eq.mpr ⟨hc514, hc515, Or.inl hc523⟩)]) (w520.mono (by decide) (by decide))
        · show Go κ _ T517 148 #[.val (.int p0), .val (.int p1), .val (.int p2), .val (.int p3), .val (.int p4), .val (.int r5), .val (.int r6), .val (.ref (ct c0 c1 c2 c3 (p0 &&& 3))), .val (.ref (ct c0 c1 c2 c3 (r5 &&& 3))), .val (.ref u1), .val (.ref u2), .val (.ref x467), .val (.ref x483), .val (.int r13), .unset, .unset, .unset, .unset, .unset] []
          refine blk (pc' := 165) (Ls' := #[.val (.int p0), .val (.int p1), .val (.int p2), .val (.int p3), .val (.int p4), .val (.int r5), .val (.int r6), .val (.ref (ct c0 c1 c2 c3 (p0 &&& 3))), .val (.ref (ct c0 c1 c2 c3 (r5 &&& 3))), .val (.ref u1), .val (.ref u2), .val (.ref x467), .val (.ref x483), .val (.int r13), .unset, .unset, .unset, .unset, .unset]) (st' := [(.int (((r6).toUInt32 >>> ((8 : Int32) &&& 31).toUInt32).toInt32 &&& (255 : Int32))), (.int (((p2).toUInt32 >>> ((8 : Int32) &&& 31).toUInt32).toInt32 &&& (255 : Int32)))]) [oIloadN w520.ok (dc.g 75 rfl), oBipush w520.ok (dc.g 76 rfl), oIushr w520.ok (dc.g 77 rfl), oSipush w520.ok (dc.g 78 rfl), oIand w520.ok (dc.g 79 rfl), oIload w520.ok (dc.g 80 rfl), oBipush w520.ok (dc.g 81 rfl), oIushr w520.ok (dc.g 82 rfl), oSipush w520.ok (dc.g 83 rfl), oIand w520.ok (dc.g 84 rfl)] rfl ?_
          show Go κ _ T517 165 #[.val (.int p0), .val (.int p1), .val (.int p2), .val (.int p3), .val (.int p4), .val (.int r5), .val (.int r6), .val (.ref (ct c0 c1 c2 c3 (p0 &&& 3))), .val (.ref (ct c0 c1 c2 c3 (r5 &&& 3))), .val (.ref u1), .val (.ref u2), .val (.ref x467), .val (.ref x483), .val (.int r13), .unset, .unset, .unset, .unset, .unset] [(.int (b1 r6)), (.int (b1 p2))]
          refine cNe (pc' := 172) w520.ok (dc.g 85 rfl) (by decide) (by decide) (fun hc524 => ?_) (fun hc524 => ?_)
          · show Go κ _ T517 172 #[.val (.int p0), .val (.int p1), .val (.int p2), .val (.int p3), .val (.int p4), .val (.int r5), .val (.int r6), .val (.ref (ct c0 c1 c2 c3 (p0 &&& 3))), .val (.ref (ct c0 c1 c2 c3 (r5 &&& 3))), .val (.ref u1), .val (.ref u2), .val (.ref x467), .val (.ref x483), .val (.int r13), .unset, .unset, .unset, .unset, .unset] []
            refine blk (pc' := 175) (Ls' := #[.val (.int p0), .val (.int p1), .val (.int p2), .val (.int p3), .val (.int p4), .val (.int r5), .val (.int r6), .val (.ref (ct c0 c1 c2 c3 (p0 &&& 3))), .val (.ref (ct c0 c1 c2 c3 (r5 &&& 3))), .val (.ref u1), .val (.ref u2), .val (.ref x467), .val (.ref x483), .val (.int r13), .val (.int (0 : Int32)), .unset, .unset, .unset, .unset]) (st' := []) [oIconst w520.ok (dc.g 88 rfl), oIstore w520.ok (dc.g 89 rfl)] rfl ?_
            exact k175 _ _ _ (by rw [if_neg (fun q => (kcs_eq.mp q).2.2.elim hc523 hc524)]) (w520.mono (by decide) (by decide))
          · show Go κ _ T517 168 #[.val (.int p0), .val (.int p1), .val (.int p2), .val (.int p3), .val (.int p4), .val (.int r5), .val (.int r6), .val (.ref (ct c0 c1 c2 c3 (p0 &&& 3))), .val (.ref (ct c0 c1 c2 c3 (r5 &&& 3))), .val (.ref u1), .val (.ref u2), .val (.ref x467), .val (.ref x483), .val (.int r13), .unset, .unset, .unset, .unset, .unset] []
            refine blk (pc' := 175) (Ls' := #[.val (.int p0), .val (.int p1), .val (.int p2), .val (.int p3), .val (.int p4), .val (.int r5), .val (.int r6), .val (.ref (ct c0 c1 c2 c3 (p0 &&& 3))), .val (.ref (ct c0 c1 c2 c3 (r5 &&& 3))), .val (.ref u1), .val (.ref u2), .val (.ref x467), .val (.ref x483), .val (.int r13), .val (.int (1 : Int32)), .unset, .unset, .unset, .unset]) (st' := []) [oIconst w520.ok (dc.g 86 rfl), oGoto w520.ok 173 (dc.g 87 rfl), oIstore w520.ok (dc.g 89 rfl)] rfl ?_
            exact k175 _ _ _ (by rw [if_pos (kcs_eq.mpr ⟨hc514, hc515, Or.inr hc524⟩)]) (w520.mono (by decide) (by decide))
  intro r14 vm497 T498 hr14 w499
  show Go κ _ T498 175 #[.val (.int p0), .val (.int p1), .val (.int p2), .val (.int p3), .val (.int p4), .val (.int r5), .val (.int r6), .val (.ref (ct c0 c1 c2 c3 (p0 &&& 3))), .val (.ref (ct c0 c1 c2 c3 (r5 &&& 3))), .val (.ref u1), .val (.ref u2), .val (.ref x467), .val (.ref x483), .val (.int r13), .val (.int r14), .unset, .unset, .unset, .unset] []
  refine blk (pc' := 185) (Ls' := #[.val (.int p0), .val (.int p1), .val (.int p2), .val (.int p3), .val (.int p4), .val (.int r5), .val (.int r6), .val (.ref (ct c0 c1 c2 c3 (p0 &&& 3))), .val (.ref (ct c0 c1 c2 c3 (r5 &&& 3))), .val (.ref u1), .val (.ref u2), .val (.ref x467), .val (.ref x483), .val (.int r13), .val (.int r14), .val (.int (((p4).toUInt32 >>> ((2 : Int32) &&& 31).toUInt32).toInt32 &&& (3 : Int32))), .unset, .unset, .unset]) (st' := [(.int (((p4).toUInt32 >>> ((2 : Int32) &&& 31).toUInt32).toInt32 &&& (3 : Int32)))]) [oIload w499.ok (dc.g 90 rfl), oIconst w499.ok (dc.g 91 rfl), oIushr w499.ok (dc.g 92 rfl), oIconst w499.ok (dc.g 93 rfl), oIand w499.ok (dc.g 94 rfl), oIstore w499.ok (dc.g 95 rfl), oIload w499.ok (dc.g 96 rfl)] rfl ?_
  refine zNe (pc' := 212) w499.ok (dc.g 97 rfl) (by decide) (by decide) (fun hc525 => ?_) (fun hc525 => ?_)
  · show Go κ _ T498 212 #[.val (.int p0), .val (.int p1), .val (.int p2), .val (.int p3), .val (.int p4), .val (.int r5), .val (.int r6), .val (.ref (ct c0 c1 c2 c3 (p0 &&& 3))), .val (.ref (ct c0 c1 c2 c3 (r5 &&& 3))), .val (.ref u1), .val (.ref u2), .val (.ref x467), .val (.ref x483), .val (.int r13), .val (.int r14), .val (.int (((p4).toUInt32 >>> ((2 : Int32) &&& 31).toUInt32).toInt32 &&& (3 : Int32))), .unset, .unset, .unset] []
    refine blk (pc' := 215) (Ls' := #[.val (.int p0), .val (.int p1), .val (.int p2), .val (.int p3), .val (.int p4), .val (.int r5), .val (.int r6), .val (.ref (ct c0 c1 c2 c3 (p0 &&& 3))), .val (.ref (ct c0 c1 c2 c3 (r5 &&& 3))), .val (.ref u1), .val (.ref u2), .val (.ref x467), .val (.ref x483), .val (.int r13), .val (.int r14), .val (.int (((p4).toUInt32 >>> ((2 : Int32) &&& 31).toUInt32).toInt32 &&& (3 : Int32))), .unset, .unset, .unset]) (st' := [(.int (1 : Int32)), (.int (((p4).toUInt32 >>> ((2 : Int32) &&& 31).toUInt32).toInt32 &&& (3 : Int32)))]) [oIload w499.ok (dc.g 109 rfl), oIconst w499.ok (dc.g 110 rfl)] rfl ?_
    refine cNe (pc' := 227) w499.ok (dc.g 111 rfl) (by decide) (by decide) (fun hc526 => ?_) (fun hc526 => ?_)
    · show Go κ _ T498 227 #[.val (.int p0), .val (.int p1), .val (.int p2), .val (.int p3), .val (.int p4), .val (.int r5), .val (.int r6), .val (.ref (ct c0 c1 c2 c3 (p0 &&& 3))), .val (.ref (ct c0 c1 c2 c3 (r5 &&& 3))), .val (.ref u1), .val (.ref u2), .val (.ref x467), .val (.ref x483), .val (.int r13), .val (.int r14), .val (.int (((p4).toUInt32 >>> ((2 : Int32) &&& 31).toUInt32).toInt32 &&& (3 : Int32))), .unset, .unset, .unset] []
      refine blk (pc' := 230) (Ls' := #[.val (.int p0), .val (.int p1), .val (.int p2), .val (.int p3), .val (.int p4), .val (.int r5), .val (.int r6), .val (.ref (ct c0 c1 c2 c3 (p0 &&& 3))), .val (.ref (ct c0 c1 c2 c3 (r5 &&& 3))), .val (.ref u1), .val (.ref u2), .val (.ref x467), .val (.ref x483), .val (.int r13), .val (.int r14), .val (.int (((p4).toUInt32 >>> ((2 : Int32) &&& 31).toUInt32).toInt32 &&& (3 : Int32))), .unset, .unset, .unset]) (st' := [(.int (2 : Int32)), (.int (((p4).toUInt32 >>> ((2 : Int32) &&& 31).toUInt32).toInt32 &&& (3 : Int32)))]) [oIload w499.ok (dc.g 117 rfl), oIconst w499.ok (dc.g 118 rfl)] rfl ?_
      refine cNe (pc' := 243) w499.ok (dc.g 119 rfl) (by decide) (by decide) (fun hc527 => ?_) (fun hc527 => ?_)
      · show Go κ _ T498 243 #[.val (.int p0), .val (.int p1), .val (.int p2), .val (.int p3), .val (.int p4), .val (.int r5), .val (.int r6), .val (.ref (ct c0 c1 c2 c3 (p0 &&& 3))), .val (.ref (ct c0 c1 c2 c3 (r5 &&& 3))), .val (.ref u1), .val (.ref u2), .val (.ref x467), .val (.ref x483), .val (.int r13), .val (.int r14), .val (.int (((p4).toUInt32 >>> ((2 : Int32) &&& 31).toUInt32).toInt32 &&& (3 : Int32))), .unset, .unset, .unset] []
        refine blk (pc' := 254) (Ls' := #[.val (.int p0), .val (.int p1), .val (.int p2), .val (.int p3), .val (.int p4), .val (.int r5), .val (.int r6), .val (.ref (ct c0 c1 c2 c3 (p0 &&& 3))), .val (.ref (ct c0 c1 c2 c3 (r5 &&& 3))), .val (.ref u1), .val (.ref u2), .val (.ref x467), .val (.ref x483), .val (.int r13), .val (.int r14), .val (.int (((p4).toUInt32 >>> ((2 : Int32) &&& 31).toUInt32).toInt32 &&& (3 : Int32))), .val (.ref x467), .val (.int (1 : Int32)), .unset]) (st' := [(.ref x467), (.ref x467)]) [oAload w499.ok (dc.g 125 rfl), oAstore w499.ok (dc.g 126 rfl), oIconst w499.ok (dc.g 127 rfl), oIstore w499.ok (dc.g 128 rfl), oAload w499.ok (dc.g 129 rfl), oAload w499.ok (dc.g 130 rfl)] rfl ?_
        refine w499.callV (wd hw 121 rfl) (wd hw 122 rfl) (notFace (wd hw 124 rfl)) (wd hw 124 rfl) (wd hw 123 rfl) (by decide) (a := x467) XB1 (argsL := [(.ref x467)]) (Wd := 0) (Ctr.pays (len := 3) (Wd := 0) (c_eqB l Z a0 hw hEL hJS hJA c0 c1 c2 c3 hCT (w499.old ozs) A1 B1 XB1 A1 B1 S1 S1 (kcs_L _) (kcs_L _)) w499 (wd hw 125 rfl) (wd hw 53 rfl) hEL (by decide) (by decide) sfNil) pd14 rfl (st := []) rfl rfl (Nat.le_of_eq rfl) (dc.g 131 rfl) (by decide) (by decide) ?_
        intro vm528 T529 h530 v531 w532 C533 Q534
        obtain ⟨eQ534, rfl⟩ := Q534
        subst eQ534
        show Go κ _ T529 257 #[.val (.int p0), .val (.int p1), .val (.int p2), .val (.int p3), .val (.int p4), .val (.int r5), .val (.int r6), .val (.ref (ct c0 c1 c2 c3 (p0 &&& 3))), .val (.ref (ct c0 c1 c2 c3 (r5 &&& 3))), .val (.ref u1), .val (.ref u2), .val (.ref x467), .val (.ref x483), .val (.int r13), .val (.int r14), .val (.int (((p4).toUInt32 >>> ((2 : Int32) &&& 31).toUInt32).toInt32 &&& (3 : Int32))), .val (.ref x467), .val (.int (1 : Int32)), .unset] [(.int (if (ct c0 c1 c2 c3 (p0 &&& 3)) = (ct c0 c1 c2 c3 (p0 &&& 3)) ∧ kcs p2 = kcs p2 then (1 : Int32) else 0))]
        refine blk (pc' := 259) (Ls' := #[.val (.int p0), .val (.int p1), .val (.int p2), .val (.int p3), .val (.int p4), .val (.int r5), .val (.int r6), .val (.ref (ct c0 c1 c2 c3 (p0 &&& 3))), .val (.ref (ct c0 c1 c2 c3 (r5 &&& 3))), .val (.ref u1), .val (.ref u2), .val (.ref x467), .val (.ref x483), .val (.int r13), .val (.int r14), .val (.int (((p4).toUInt32 >>> ((2 : Int32) &&& 31).toUInt32).toInt32 &&& (3 : Int32))), .val (.ref x467), .val (.int (1 : Int32)), .unset]) (st' := [(.int (1 : Int32)), (.int (if (ct c0 c1 c2 c3 (p0 &&& 3)) = (ct c0 c1 c2 c3 (p0 &&& 3)) ∧ kcs p2 = kcs p2 then (1 : Int32) else 0))]) [oIload w532.ok (dc.g 132 rfl)] rfl ?_
        refine cNe (pc' := 266) w532.ok (dc.g 133 rfl) (by decide) (by decide) (fun hc535 => absurd (if_pos ⟨rfl, rfl⟩) hc535) (fun hc535 => ?_)
        show Go κ _ T529 262 #[.val (.int p0), .val (.int p1), .val (.int p2), .val (.int p3), .val (.int p4), .val (.int r5), .val (.int r6), .val (.ref (ct c0 c1 c2 c3 (p0 &&& 3))), .val (.ref (ct c0 c1 c2 c3 (r5 &&& 3))), .val (.ref u1), .val (.ref u2), .val (.ref x467), .val (.ref x483), .val (.int r13), .val (.int r14), .val (.int (((p4).toUInt32 >>> ((2 : Int32) &&& 31).toUInt32).toInt32 &&& (3 : Int32))), .val (.ref x467), .val (.int (1 : Int32)), .unset] []
        refine blk (pc' := 271) (Ls' := #[.val (.int p0), .val (.int p1), .val (.int p2), .val (.int p3), .val (.int p4), .val (.int r5), .val (.int r6), .val (.ref (ct c0 c1 c2 c3 (p0 &&& 3))), .val (.ref (ct c0 c1 c2 c3 (r5 &&& 3))), .val (.ref u1), .val (.ref u2), .val (.ref x467), .val (.ref x483), .val (.int r13), .val (.int r14), .val (.int (((p4).toUInt32 >>> ((2 : Int32) &&& 31).toUInt32).toInt32 &&& (3 : Int32))), .val (.ref x467), .val (.int (1 : Int32)), .val (.int (1 : Int32))]) (st' := [(.int (((p4).toUInt32 >>> ((2 : Int32) &&& 31).toUInt32).toInt32 &&& (3 : Int32)))]) [oIconst w532.ok (dc.g 134 rfl), oGoto w532.ok 267 (dc.g 135 rfl), oIstore w532.ok (dc.g 137 rfl), oIload w532.ok (dc.g 138 rfl)] rfl ?_
        refine zNe (pc' := 298) w532.ok (dc.g 139 rfl) (by decide) (by decide) (fun hc536 => ?_) (fun hc536 => absurd hc536 hc525)
        show Go κ _ T529 298 #[.val (.int p0), .val (.int p1), .val (.int p2), .val (.int p3), .val (.int p4), .val (.int r5), .val (.int r6), .val (.ref (ct c0 c1 c2 c3 (p0 &&& 3))), .val (.ref (ct c0 c1 c2 c3 (r5 &&& 3))), .val (.ref u1), .val (.ref u2), .val (.ref x467), .val (.ref x483), .val (.int r13), .val (.int r14), .val (.int (((p4).toUInt32 >>> ((2 : Int32) &&& 31).toUInt32).toInt32 &&& (3 : Int32))), .val (.ref x467), .val (.int (1 : Int32)), .val (.int (1 : Int32))] []
        refine blk (pc' := 300) (Ls' := #[.val (.int p0), .val (.int p1), .val (.int p2), .val (.int p3), .val (.int p4), .val (.int r5), .val (.int r6), .val (.ref (ct c0 c1 c2 c3 (p0 &&& 3))), .val (.ref (ct c0 c1 c2 c3 (r5 &&& 3))), .val (.ref u1), .val (.ref u2), .val (.ref x467), .val (.ref x483), .val (.int r13), .val (.int r14), .val (.int (((p4).toUInt32 >>> ((2 : Int32) &&& 31).toUInt32).toInt32 &&& (3 : Int32))), .val (.ref x467), .val (.int (1 : Int32)), .val (.int (1 : Int32))]) (st' := [(.int (1 : Int32))]) [oIload w532.ok (dc.g 151 rfl)] rfl ?_
        exact w532.retI (t := .boolean) rfl (Or.inr (Or.inl rfl)) rfl (dc.g 152 rfl) (by decide) (by decide) (fun S hS => rfl)
      · show Go κ _ T498 233 #[.val (.int p0), .val (.int p1), .val (.int p2), .val (.int p3), .val (.int p4), .val (.int r5), .val (.int r6), .val (.ref (ct c0 c1 c2 c3 (p0 &&& 3))), .val (.ref (ct c0 c1 c2 c3 (r5 &&& 3))), .val (.ref u1), .val (.ref u2), .val (.ref x467), .val (.ref x483), .val (.int r13), .val (.int r14), .val (.int (((p4).toUInt32 >>> ((2 : Int32) &&& 31).toUInt32).toInt32 &&& (3 : Int32))), .unset, .unset, .unset] []
        refine blk (pc' := 254) (Ls' := #[.val (.int p0), .val (.int p1), .val (.int p2), .val (.int p3), .val (.int p4), .val (.int r5), .val (.int r6), .val (.ref (ct c0 c1 c2 c3 (p0 &&& 3))), .val (.ref (ct c0 c1 c2 c3 (r5 &&& 3))), .val (.ref u1), .val (.ref u2), .val (.ref x467), .val (.ref x483), .val (.int r13), .val (.int r14), .val (.int (((p4).toUInt32 >>> ((2 : Int32) &&& 31).toUInt32).toInt32 &&& (3 : Int32))), .val (.ref u1), .val (.int (0 : Int32)), .unset]) (st' := [(.ref u1), (.ref x467)]) [oAload w499.ok (dc.g 120 rfl), oAstore w499.ok (dc.g 121 rfl), oIconst w499.ok (dc.g 122 rfl), oIstore w499.ok (dc.g 123 rfl), oGoto w499.ok 250 (dc.g 124 rfl), oAload w499.ok (dc.g 129 rfl), oAload w499.ok (dc.g 130 rfl)] rfl ?_
        refine w499.callV (wd hw 121 rfl) (wd hw 122 rfl) (notFace (wd hw 124 rfl)) (wd hw 124 rfl) (wd hw 123 rfl) (by decide) (a := x467) XB1 (argsL := [(.ref u1)]) (Wd := 0) (Ctr.pays (len := 3) (Wd := 0) (c_eqS l Z a0 hw hEL hJS hJA c0 c1 c2 c3 hCT S1.exa) w499 (wd hw 125 rfl) (wd hw 53 rfl) hEL (by decide) (by decide) sfNil) pd14 rfl (st := []) rfl rfl (Nat.le_of_eq rfl) (dc.g 131 rfl) (by decide) (by decide) ?_
        intro vm537 T538 h539 v540 w541 C542 Q543
        obtain ⟨eQ543, rfl⟩ := Q543
        subst eQ543
        show Go κ _ T538 257 #[.val (.int p0), .val (.int p1), .val (.int p2), .val (.int p3), .val (.int p4), .val (.int r5), .val (.int r6), .val (.ref (ct c0 c1 c2 c3 (p0 &&& 3))), .val (.ref (ct c0 c1 c2 c3 (r5 &&& 3))), .val (.ref u1), .val (.ref u2), .val (.ref x467), .val (.ref x483), .val (.int r13), .val (.int r14), .val (.int (((p4).toUInt32 >>> ((2 : Int32) &&& 31).toUInt32).toInt32 &&& (3 : Int32))), .val (.ref u1), .val (.int (0 : Int32)), .unset] [(.int (0 : Int32))]
        refine blk (pc' := 259) (Ls' := #[.val (.int p0), .val (.int p1), .val (.int p2), .val (.int p3), .val (.int p4), .val (.int r5), .val (.int r6), .val (.ref (ct c0 c1 c2 c3 (p0 &&& 3))), .val (.ref (ct c0 c1 c2 c3 (r5 &&& 3))), .val (.ref u1), .val (.ref u2), .val (.ref x467), .val (.ref x483), .val (.int r13), .val (.int r14), .val (.int (((p4).toUInt32 >>> ((2 : Int32) &&& 31).toUInt32).toInt32 &&& (3 : Int32))), .val (.ref u1), .val (.int (0 : Int32)), .unset]) (st' := [(.int (0 : Int32)), (.int (0 : Int32))]) [oIload w541.ok (dc.g 132 rfl)] rfl ?_
        refine cNe (pc' := 266) w541.ok (dc.g 133 rfl) (by decide) (by decide) (fun hc544 => absurd rfl hc544) (fun hc544 => ?_)
        show Go κ _ T538 262 #[.val (.int p0), .val (.int p1), .val (.int p2), .val (.int p3), .val (.int p4), .val (.int r5), .val (.int r6), .val (.ref (ct c0 c1 c2 c3 (p0 &&& 3))), .val (.ref (ct c0 c1 c2 c3 (r5 &&& 3))), .val (.ref u1), .val (.ref u2), .val (.ref x467), .val (.ref x483), .val (.int r13), .val (.int r14), .val (.int (((p4).toUInt32 >>> ((2 : Int32) &&& 31).toUInt32).toInt32 &&& (3 : Int32))), .val (.ref u1), .val (.int (0 : Int32)), .unset] []
        refine blk (pc' := 271) (Ls' := #[.val (.int p0), .val (.int p1), .val (.int p2), .val (.int p3), .val (.int p4), .val (.int r5), .val (.int r6), .val (.ref (ct c0 c1 c2 c3 (p0 &&& 3))), .val (.ref (ct c0 c1 c2 c3 (r5 &&& 3))), .val (.ref u1), .val (.ref u2), .val (.ref x467), .val (.ref x483), .val (.int r13), .val (.int r14), .val (.int (((p4).toUInt32 >>> ((2 : Int32) &&& 31).toUInt32).toInt32 &&& (3 : Int32))), .val (.ref u1), .val (.int (0 : Int32)), .val (.int (1 : Int32))]) (st' := [(.int (((p4).toUInt32 >>> ((2 : Int32) &&& 31).toUInt32).toInt32 &&& (3 : Int32)))]) [oIconst w541.ok (dc.g 134 rfl), oGoto w541.ok 267 (dc.g 135 rfl), oIstore w541.ok (dc.g 137 rfl), oIload w541.ok (dc.g 138 rfl)] rfl ?_
        refine zNe (pc' := 298) w541.ok (dc.g 139 rfl) (by decide) (by decide) (fun hc545 => ?_) (fun hc545 => absurd hc545 hc525)
        show Go κ _ T538 298 #[.val (.int p0), .val (.int p1), .val (.int p2), .val (.int p3), .val (.int p4), .val (.int r5), .val (.int r6), .val (.ref (ct c0 c1 c2 c3 (p0 &&& 3))), .val (.ref (ct c0 c1 c2 c3 (r5 &&& 3))), .val (.ref u1), .val (.ref u2), .val (.ref x467), .val (.ref x483), .val (.int r13), .val (.int r14), .val (.int (((p4).toUInt32 >>> ((2 : Int32) &&& 31).toUInt32).toInt32 &&& (3 : Int32))), .val (.ref u1), .val (.int (0 : Int32)), .val (.int (1 : Int32))] []
        refine blk (pc' := 300) (Ls' := #[.val (.int p0), .val (.int p1), .val (.int p2), .val (.int p3), .val (.int p4), .val (.int r5), .val (.int r6), .val (.ref (ct c0 c1 c2 c3 (p0 &&& 3))), .val (.ref (ct c0 c1 c2 c3 (r5 &&& 3))), .val (.ref u1), .val (.ref u2), .val (.ref x467), .val (.ref x483), .val (.int r13), .val (.int r14), .val (.int (((p4).toUInt32 >>> ((2 : Int32) &&& 31).toUInt32).toInt32 &&& (3 : Int32))), .val (.ref u1), .val (.int (0 : Int32)), .val (.int (1 : Int32))]) (st' := [(.int (1 : Int32))]) [oIload w541.ok (dc.g 151 rfl)] rfl ?_
        exact w541.retI (t := .boolean) rfl (Or.inr (Or.inl rfl)) rfl (dc.g 152 rfl) (by decide) (by decide) (fun S hS => rfl)
    · show Go κ _ T498 218 #[.val (.int p0), .val (.int p1), .val (.int p2), .val (.int p3), .val (.int p4), .val (.int r5), .val (.int r6), .val (.ref (ct c0 c1 c2 c3 (p0 &&& 3))), .val (.ref (ct c0 c1 c2 c3 (r5 &&& 3))), .val (.ref u1), .val (.ref u2), .val (.ref x467), .val (.ref x483), .val (.int r13), .val (.int r14), .val (.int (((p4).toUInt32 >>> ((2 : Int32) &&& 31).toUInt32).toInt32 &&& (3 : Int32))), .unset, .unset, .unset] []
      refine blk (pc' := 254) (Ls' := #[.val (.int p0), .val (.int p1), .val (.int p2), .val (.int p3), .val (.int p4), .val (.int r5), .val (.int r6), .val (.ref (ct c0 c1 c2 c3 (p0 &&& 3))), .val (.ref (ct c0 c1 c2 c3 (r5 &&& 3))), .val (.ref u1), .val (.ref u2), .val (.ref x467), .val (.ref x483), .val (.int r13), .val (.int r14), .val (.int (((p4).toUInt32 >>> ((2 : Int32) &&& 31).toUInt32).toInt32 &&& (3 : Int32))), .val .null, .val (.int (0 : Int32)), .unset]) (st' := [.null, (.ref x467)]) [oAnull w499.ok (dc.g 112 rfl), oAstore w499.ok (dc.g 113 rfl), oIconst w499.ok (dc.g 114 rfl), oIstore w499.ok (dc.g 115 rfl), oGoto w499.ok 250 (dc.g 116 rfl), oAload w499.ok (dc.g 129 rfl), oAload w499.ok (dc.g 130 rfl)] rfl ?_
      refine w499.callV (wd hw 121 rfl) (wd hw 122 rfl) (notFace (wd hw 124 rfl)) (wd hw 124 rfl) (wd hw 123 rfl) (by decide) (a := x467) XB1 (argsL := [.null]) (Wd := 0) (Ctr.pays (len := 3) (Wd := 0) (c_eqN l Z a0 hw hEL hJS hJA c0 c1 c2 c3 hCT) w499 (wd hw 125 rfl) (wd hw 53 rfl) hEL (by decide) (by decide) sfNil) pd14 rfl (st := []) rfl rfl (Nat.le_of_eq rfl) (dc.g 131 rfl) (by decide) (by decide) ?_
      intro vm546 T547 h548 v549 w550 C551 Q552
      obtain ⟨eQ552, rfl⟩ := Q552
      subst eQ552
      show Go κ _ T547 257 #[.val (.int p0), .val (.int p1), .val (.int p2), .val (.int p3), .val (.int p4), .val (.int r5), .val (.int r6), .val (.ref (ct c0 c1 c2 c3 (p0 &&& 3))), .val (.ref (ct c0 c1 c2 c3 (r5 &&& 3))), .val (.ref u1), .val (.ref u2), .val (.ref x467), .val (.ref x483), .val (.int r13), .val (.int r14), .val (.int (((p4).toUInt32 >>> ((2 : Int32) &&& 31).toUInt32).toInt32 &&& (3 : Int32))), .val .null, .val (.int (0 : Int32)), .unset] [(.int (0 : Int32))]
      refine blk (pc' := 259) (Ls' := #[.val (.int p0), .val (.int p1), .val (.int p2), .val (.int p3), .val (.int p4), .val (.int r5), .val (.int r6), .val (.ref (ct c0 c1 c2 c3 (p0 &&& 3))), .val (.ref (ct c0 c1 c2 c3 (r5 &&& 3))), .val (.ref u1), .val (.ref u2), .val (.ref x467), .val (.ref x483), .val (.int r13), .val (.int r14), .val (.int (((p4).toUInt32 >>> ((2 : Int32) &&& 31).toUInt32).toInt32 &&& (3 : Int32))), .val .null, .val (.int (0 : Int32)), .unset]) (st' := [(.int (0 : Int32)), (.int (0 : Int32))]) [oIload w550.ok (dc.g 132 rfl)] rfl ?_
      refine cNe (pc' := 266) w550.ok (dc.g 133 rfl) (by decide) (by decide) (fun hc553 => absurd rfl hc553) (fun hc553 => ?_)
      show Go κ _ T547 262 #[.val (.int p0), .val (.int p1), .val (.int p2), .val (.int p3), .val (.int p4), .val (.int r5), .val (.int r6), .val (.ref (ct c0 c1 c2 c3 (p0 &&& 3))), .val (.ref (ct c0 c1 c2 c3 (r5 &&& 3))), .val (.ref u1), .val (.ref u2), .val (.ref x467), .val (.ref x483), .val (.int r13), .val (.int r14), .val (.int (((p4).toUInt32 >>> ((2 : Int32) &&& 31).toUInt32).toInt32 &&& (3 : Int32))), .val .null, .val (.int (0 : Int32)), .unset] []
      refine blk (pc' := 271) (Ls' := #[.val (.int p0), .val (.int p1), .val (.int p2), .val (.int p3), .val (.int p4), .val (.int r5), .val (.int r6), .val (.ref (ct c0 c1 c2 c3 (p0 &&& 3))), .val (.ref (ct c0 c1 c2 c3 (r5 &&& 3))), .val (.ref u1), .val (.ref u2), .val (.ref x467), .val (.ref x483), .val (.int r13), .val (.int r14), .val (.int (((p4).toUInt32 >>> ((2 : Int32) &&& 31).toUInt32).toInt32 &&& (3 : Int32))), .val .null, .val (.int (0 : Int32)), .val (.int (1 : Int32))]) (st' := [(.int (((p4).toUInt32 >>> ((2 : Int32) &&& 31).toUInt32).toInt32 &&& (3 : Int32)))]) [oIconst w550.ok (dc.g 134 rfl), oGoto w550.ok 267 (dc.g 135 rfl), oIstore w550.ok (dc.g 137 rfl), oIload w550.ok (dc.g 138 rfl)] rfl ?_
      refine zNe (pc' := 298) w550.ok (dc.g 139 rfl) (by decide) (by decide) (fun hc554 => ?_) (fun hc554 => absurd hc554 hc525)
      show Go κ _ T547 298 #[.val (.int p0), .val (.int p1), .val (.int p2), .val (.int p3), .val (.int p4), .val (.int r5), .val (.int r6), .val (.ref (ct c0 c1 c2 c3 (p0 &&& 3))), .val (.ref (ct c0 c1 c2 c3 (r5 &&& 3))), .val (.ref u1), .val (.ref u2), .val (.ref x467), .val (.ref x483), .val (.int r13), .val (.int r14), .val (.int (((p4).toUInt32 >>> ((2 : Int32) &&& 31).toUInt32).toInt32 &&& (3 : Int32))), .val .null, .val (.int (0 : Int32)), .val (.int (1 : Int32))] []
      refine blk (pc' := 300) (Ls' := #[.val (.int p0), .val (.int p1), .val (.int p2), .val (.int p3), .val (.int p4), .val (.int r5), .val (.int r6), .val (.ref (ct c0 c1 c2 c3 (p0 &&& 3))), .val (.ref (ct c0 c1 c2 c3 (r5 &&& 3))), .val (.ref u1), .val (.ref u2), .val (.ref x467), .val (.ref x483), .val (.int r13), .val (.int r14), .val (.int (((p4).toUInt32 >>> ((2 : Int32) &&& 31).toUInt32).toInt32 &&& (3 : Int32))), .val .null, .val (.int (0 : Int32)), .val (.int (1 : Int32))]) (st' := [(.int (1 : Int32))]) [oIload w550.ok (dc.g 151 rfl)] rfl ?_
      exact w550.retI (t := .boolean) rfl (Or.inr (Or.inl rfl)) rfl (dc.g 152 rfl) (by decide) (by decide) (fun S hS => rfl)
  · show Go κ _ T498 188 #[.val (.int p0), .val (.int p1), .val (.int p2), .val (.int p3), .val (.int p4), .val (.int r5), .val (.int r6), .val (.ref (ct c0 c1 c2 c3 (p0 &&& 3))), .val (.ref (ct c0 c1 c2 c3 (r5 &&& 3))), .val (.ref u1), .val (.ref u2), .val (.ref x467), .val (.ref x483), .val (.int r13), .val (.int r14), .val (.int (((p4).toUInt32 >>> ((2 : Int32) &&& 31).toUInt32).toInt32 &&& (3 : Int32))), .unset, .unset, .unset] []
    refine blk (pc' := 192) (Ls' := #[.val (.int p0), .val (.int p1), .val (.int p2), .val (.int p3), .val (.int p4), .val (.int r5), .val (.int r6), .val (.ref (ct c0 c1 c2 c3 (p0 &&& 3))), .val (.ref (ct c0 c1 c2 c3 (r5 &&& 3))), .val (.ref u1), .val (.ref u2), .val (.ref x467), .val (.ref x483), .val (.int r13), .val (.int r14), .val (.int (((p4).toUInt32 >>> ((2 : Int32) &&& 31).toUInt32).toInt32 &&& (3 : Int32))), .val (.ref x483), .unset, .unset]) (st' := []) [oAload w499.ok (dc.g 98 rfl), oAstore w499.ok (dc.g 99 rfl)] rfl ?_
    suffices k209 : ∀ r17 : Int32, r17 = (if (ct c0 c1 c2 c3 (p0 &&& 3)) = (ct c0 c1 c2 c3 (r5 &&& 3)) ∧ kcs p2 = kcs r6 then (1 : Int32) else 0) → Go κ (GQ κ Z [] room_1 (fun v h' S => v = some (.int 1))) T498 209 #[.val (.int p0), .val (.int p1), .val (.int p2), .val (.int p3), .val (.int p4), .val (.int r5), .val (.int r6), .val (.ref (ct c0 c1 c2 c3 (p0 &&& 3))), .val (.ref (ct c0 c1 c2 c3 (r5 &&& 3))), .val (.ref u1), .val (.ref u2), .val (.ref x467), .val (.ref x483), .val (.int r13), .val (.int r14), .val (.int (((p4).toUInt32 >>> ((2 : Int32) &&& 31).toUInt32).toInt32 &&& (3 : Int32))), .val (.ref x483), .val (.int r17), .unset] [] by
      refine blk (pc' := 194) (Ls' := #[.val (.int p0), .val (.int p1), .val (.int p2), .val (.int p3), .val (.int p4), .val (.int r5), .val (.int r6), .val (.ref (ct c0 c1 c2 c3 (p0 &&& 3))), .val (.ref (ct c0 c1 c2 c3 (r5 &&& 3))), .val (.ref u1), .val (.ref u2), .val (.ref x467), .val (.ref x483), .val (.int r13), .val (.int r14), .val (.int (((p4).toUInt32 >>> ((2 : Int32) &&& 31).toUInt32).toInt32 &&& (3 : Int32))), .val (.ref x483), .unset, .unset]) (st' := [(.int r13)]) [oIload w499.ok (dc.g 100 rfl)] rfl ?_
      refine zEq (pc' := 206) w499.ok (dc.g 101 rfl) (by decide) (by decide) (fun hc555 => ?_) (fun hc555 => ?_)
      · show Go κ _ T498 206 #[.val (.int p0), .val (.int p1), .val (.int p2), .val (.int p3), .val (.int p4), .val (.int r5), .val (.int r6), .val (.ref (ct c0 c1 c2 c3 (p0 &&& 3))), .val (.ref (ct c0 c1 c2 c3 (r5 &&& 3))), .val (.ref u1), .val (.ref u2), .val (.ref x467), .val (.ref x483), .val (.int r13), .val (.int r14), .val (.int (((p4).toUInt32 >>> ((2 : Int32) &&& 31).toUInt32).toInt32 &&& (3 : Int32))), .val (.ref x483), .unset, .unset] []
        refine blk (pc' := 209) (Ls' := #[.val (.int p0), .val (.int p1), .val (.int p2), .val (.int p3), .val (.int p4), .val (.int r5), .val (.int r6), .val (.ref (ct c0 c1 c2 c3 (p0 &&& 3))), .val (.ref (ct c0 c1 c2 c3 (r5 &&& 3))), .val (.ref u1), .val (.ref u2), .val (.ref x467), .val (.ref x483), .val (.int r13), .val (.int r14), .val (.int (((p4).toUInt32 >>> ((2 : Int32) &&& 31).toUInt32).toInt32 &&& (3 : Int32))), .val (.ref x483), .val (.int (0 : Int32)), .unset]) (st' := []) [oIconst w499.ok (dc.g 106 rfl), oIstore w499.ok (dc.g 107 rfl)] rfl ?_
        exact k209 _ (by rw [if_neg (fun q => by rw [if_pos (ee.mp q.1)] at hr13; rw [hr13] at hc555; exact absurd hc555 (by decide))])
      · show Go κ _ T498 197 #[.val (.int p0), .val (.int p1), .val (.int p2), .val (.int p3), .val (.int p4), .val (.int r5), .val (.int r6), .val (.ref (ct c0 c1 c2 c3 (p0 &&& 3))), .val (.ref (ct c0 c1 c2 c3 (r5 &&& 3))), .val (.ref u1), .val (.ref u2), .val (.ref x467), .val (.ref x483), .val (.int r13), .val (.int r14), .val (.int (((p4).toUInt32 >>> ((2 : Int32) &&& 31).toUInt32).toInt32 &&& (3 : Int32))), .val (.ref x483), .unset, .unset] []
        refine blk (pc' := 199) (Ls' := #[.val (.int p0), .val (.int p1), .val (.int p2), .val (.int p3), .val (.int p4), .val (.int r5), .val (.int r6), .val (.ref (ct c0 c1 c2 c3 (p0 &&& 3))), .val (.ref (ct c0 c1 c2 c3 (r5 &&& 3))), .val (.ref u1), .val (.ref u2), .val (.ref x467), .val (.ref x483), .val (.int r13), .val (.int r14), .val (.int (((p4).toUInt32 >>> ((2 : Int32) &&& 31).toUInt32).toInt32 &&& (3 : Int32))), .val (.ref x483), .unset, .unset]) (st' := [(.int r14)]) [oIload w499.ok (dc.g 102 rfl)] rfl ?_
        refine zEq (pc' := 206) w499.ok (dc.g 103 rfl) (by decide) (by decide) (fun hc556 => ?_) (fun hc556 => ?_)
        · show Go κ _ T498 206 #[.val (.int p0), .val (.int p1), .val (.int p2), .val (.int p3), .val (.int p4), .val (.int r5), .val (.int r6), .val (.ref (ct c0 c1 c2 c3 (p0 &&& 3))), .val (.ref (ct c0 c1 c2 c3 (r5 &&& 3))), .val (.ref u1), .val (.ref u2), .val (.ref x467), .val (.ref x483), .val (.int r13), .val (.int r14), .val (.int (((p4).toUInt32 >>> ((2 : Int32) &&& 31).toUInt32).toInt32 &&& (3 : Int32))), .val (.ref x483), .unset, .unset] []
          refine blk (pc' := 209) (Ls' := #[.val (.int p0), .val (.int p1), .val (.int p2), .val (.int p3), .val (.int p4), .val (.int r5), .val (.int r6), .val (.ref (ct c0 c1 c2 c3 (p0 &&& 3))), .val (.ref (ct c0 c1 c2 c3 (r5 &&& 3))), .val (.ref u1), .val (.ref u2), .val (.ref x467), .val (.ref x483), .val (.int r13), .val (.int r14), .val (.int (((p4).toUInt32 >>> ((2 : Int32) &&& 31).toUInt32).toInt32 &&& (3 : Int32))), .val (.ref x483), .val (.int (0 : Int32)), .unset]) (st' := []) [oIconst w499.ok (dc.g 106 rfl), oIstore w499.ok (dc.g 107 rfl)] rfl ?_
          exact k209 _ (by rw [if_neg (fun q => by rw [if_pos q.2] at hr14; rw [hr14] at hc556; exact absurd hc556 (by decide))])
        · show Go κ _ T498 202 #[.val (.int p0), .val (.int p1), .val (.int p2), .val (.int p3), .val (.int p4), .val (.int r5), .val (.int r6), .val (.ref (ct c0 c1 c2 c3 (p0 &&& 3))), .val (.ref (ct c0 c1 c2 c3 (r5 &&& 3))), .val (.ref u1), .val (.ref u2), .val (.ref x467), .val (.ref x483), .val (.int r13), .val (.int r14), .val (.int (((p4).toUInt32 >>> ((2 : Int32) &&& 31).toUInt32).toInt32 &&& (3 : Int32))), .val (.ref x483), .unset, .unset] []
          refine blk (pc' := 209) (Ls' := #[.val (.int p0), .val (.int p1), .val (.int p2), .val (.int p3), .val (.int p4), .val (.int r5), .val (.int r6), .val (.ref (ct c0 c1 c2 c3 (p0 &&& 3))), .val (.ref (ct c0 c1 c2 c3 (r5 &&& 3))), .val (.ref u1), .val (.ref u2), .val (.ref x467), .val (.ref x483), .val (.int r13), .val (.int r14), .val (.int (((p4).toUInt32 >>> ((2 : Int32) &&& 31).toUInt32).toInt32 &&& (3 : Int32))), .val (.ref x483), .val (.int (1 : Int32)), .unset]) (st' := []) [oIconst w499.ok (dc.g 104 rfl), oGoto w499.ok 207 (dc.g 105 rfl), oIstore w499.ok (dc.g 107 rfl)] rfl ?_
          exact k209 _ (by rw [if_pos ⟨ee.mpr (Classical.byContradiction fun q => hc555 (by rw [hr13, if_neg q])), Classical.byContradiction fun q => hc556 (by rw [hr14, if_neg q])⟩])
    intro r17 hr17
    show Go κ _ T498 209 #[.val (.int p0), .val (.int p1), .val (.int p2), .val (.int p3), .val (.int p4), .val (.int r5), .val (.int r6), .val (.ref (ct c0 c1 c2 c3 (p0 &&& 3))), .val (.ref (ct c0 c1 c2 c3 (r5 &&& 3))), .val (.ref u1), .val (.ref u2), .val (.ref x467), .val (.ref x483), .val (.int r13), .val (.int r14), .val (.int (((p4).toUInt32 >>> ((2 : Int32) &&& 31).toUInt32).toInt32 &&& (3 : Int32))), .val (.ref x483), .val (.int r17), .unset] []
    refine blk (pc' := 254) (Ls' := #[.val (.int p0), .val (.int p1), .val (.int p2), .val (.int p3), .val (.int p4), .val (.int r5), .val (.int r6), .val (.ref (ct c0 c1 c2 c3 (p0 &&& 3))), .val (.ref (ct c0 c1 c2 c3 (r5 &&& 3))), .val (.ref u1), .val (.ref u2), .val (.ref x467), .val (.ref x483), .val (.int r13), .val (.int r14), .val (.int (((p4).toUInt32 >>> ((2 : Int32) &&& 31).toUInt32).toInt32 &&& (3 : Int32))), .val (.ref x483), .val (.int r17), .unset]) (st' := [(.ref x483), (.ref x467)]) [oGoto w499.ok 250 (dc.g 108 rfl), oAload w499.ok (dc.g 129 rfl), oAload w499.ok (dc.g 130 rfl)] rfl ?_
    refine w499.callV (wd hw 121 rfl) (wd hw 122 rfl) (notFace (wd hw 124 rfl)) (wd hw 124 rfl) (wd hw 123 rfl) (by decide) (a := x467) XB1 (argsL := [(.ref x483)]) (Wd := 0) (Ctr.pays (len := 3) (Wd := 0) (c_eqB l Z a0 hw hEL hJS hJA c0 c1 c2 c3 hCT (w499.old ozs) A1 B1 XB2 A2 B2 S1 S2 (kcs_L _) (kcs_L _)) w499 (wd hw 125 rfl) (wd hw 53 rfl) hEL (by decide) (by decide) sfNil) pd14 rfl (st := []) rfl rfl (Nat.le_of_eq rfl) (dc.g 131 rfl) (by decide) (by decide) ?_
    intro vm557 T558 h559 v560 w561 C562 Q563
    obtain ⟨eQ563, rfl⟩ := Q563
    subst eQ563
    show Go κ _ T558 257 #[.val (.int p0), .val (.int p1), .val (.int p2), .val (.int p3), .val (.int p4), .val (.int r5), .val (.int r6), .val (.ref (ct c0 c1 c2 c3 (p0 &&& 3))), .val (.ref (ct c0 c1 c2 c3 (r5 &&& 3))), .val (.ref u1), .val (.ref u2), .val (.ref x467), .val (.ref x483), .val (.int r13), .val (.int r14), .val (.int (((p4).toUInt32 >>> ((2 : Int32) &&& 31).toUInt32).toInt32 &&& (3 : Int32))), .val (.ref x483), .val (.int r17), .unset] [(.int (if (ct c0 c1 c2 c3 (p0 &&& 3)) = (ct c0 c1 c2 c3 (r5 &&& 3)) ∧ kcs p2 = kcs r6 then (1 : Int32) else 0))]
    refine blk (pc' := 259) (Ls' := #[.val (.int p0), .val (.int p1), .val (.int p2), .val (.int p3), .val (.int p4), .val (.int r5), .val (.int r6), .val (.ref (ct c0 c1 c2 c3 (p0 &&& 3))), .val (.ref (ct c0 c1 c2 c3 (r5 &&& 3))), .val (.ref u1), .val (.ref u2), .val (.ref x467), .val (.ref x483), .val (.int r13), .val (.int r14), .val (.int (((p4).toUInt32 >>> ((2 : Int32) &&& 31).toUInt32).toInt32 &&& (3 : Int32))), .val (.ref x483), .val (.int r17), .unset]) (st' := [(.int r17), (.int (if (ct c0 c1 c2 c3 (p0 &&& 3)) = (ct c0 c1 c2 c3 (r5 &&& 3)) ∧ kcs p2 = kcs r6 then (1 : Int32) else 0))]) [oIload w561.ok (dc.g 132 rfl)] rfl ?_
    refine cNe (pc' := 266) w561.ok (dc.g 133 rfl) (by decide) (by decide) (fun hc564 => absurd hr17.symm hc564) (fun hc564 => ?_)
    show Go κ _ T558 262 #[.val (.int p0), .val (.int p1), .val (.int p2), .val (.int p3), .val (.int p4), .val (.int r5), .val (.int r6), .val (.ref (ct c0 c1 c2 c3 (p0 &&& 3))), .val (.ref (ct c0 c1 c2 c3 (r5 &&& 3))), .val (.ref u1), .val (.ref u2), .val (.ref x467), .val (.ref x483), .val (.int r13), .val (.int r14), .val (.int (((p4).toUInt32 >>> ((2 : Int32) &&& 31).toUInt32).toInt32 &&& (3 : Int32))), .val (.ref x483), .val (.int r17), .unset] []
    refine blk (pc' := 271) (Ls' := #[.val (.int p0), .val (.int p1), .val (.int p2), .val (.int p3), .val (.int p4), .val (.int r5), .val (.int r6), .val (.ref (ct c0 c1 c2 c3 (p0 &&& 3))), .val (.ref (ct c0 c1 c2 c3 (r5 &&& 3))), .val (.ref u1), .val (.ref u2), .val (.ref x467), .val (.ref x483), .val (.int r13), .val (.int r14), .val (.int (((p4).toUInt32 >>> ((2 : Int32) &&& 31).toUInt32).toInt32 &&& (3 : Int32))), .val (.ref x483), .val (.int r17), .val (.int (1 : Int32))]) (st' := [(.int (((p4).toUInt32 >>> ((2 : Int32) &&& 31).toUInt32).toInt32 &&& (3 : Int32)))]) [oIconst w561.ok (dc.g 134 rfl), oGoto w561.ok 267 (dc.g 135 rfl), oIstore w561.ok (dc.g 137 rfl), oIload w561.ok (dc.g 138 rfl)] rfl ?_
    refine zNe (pc' := 298) w561.ok (dc.g 139 rfl) (by decide) (by decide) (fun hc565 => absurd hc525 hc565) (fun hc565 => ?_)
    show Go κ _ T558 274 #[.val (.int p0), .val (.int p1), .val (.int p2), .val (.int p3), .val (.int p4), .val (.int r5), .val (.int r6), .val (.ref (ct c0 c1 c2 c3 (p0 &&& 3))), .val (.ref (ct c0 c1 c2 c3 (r5 &&& 3))), .val (.ref u1), .val (.ref u2), .val (.ref x467), .val (.ref x483), .val (.int r13), .val (.int r14), .val (.int (((p4).toUInt32 >>> ((2 : Int32) &&& 31).toUInt32).toInt32 &&& (3 : Int32))), .val (.ref x483), .val (.int r17), .val (.int (1 : Int32))] []
    refine blk (pc' := 276) (Ls' := #[.val (.int p0), .val (.int p1), .val (.int p2), .val (.int p3), .val (.int p4), .val (.int r5), .val (.int r6), .val (.ref (ct c0 c1 c2 c3 (p0 &&& 3))), .val (.ref (ct c0 c1 c2 c3 (r5 &&& 3))), .val (.ref u1), .val (.ref u2), .val (.ref x467), .val (.ref x483), .val (.int r13), .val (.int r14), .val (.int (((p4).toUInt32 >>> ((2 : Int32) &&& 31).toUInt32).toInt32 &&& (3 : Int32))), .val (.ref x483), .val (.int r17), .val (.int (1 : Int32))]) (st' := [(.int (1 : Int32))]) [oIload w561.ok (dc.g 140 rfl)] rfl ?_
    refine zEq (pc' := 295) w561.ok (dc.g 141 rfl) (by decide) (by decide) (fun hc566 => absurd hc566 (by decide)) (fun hc566 => ?_)
    show Go κ _ T558 279 #[.val (.int p0), .val (.int p1), .val (.int p2), .val (.int p3), .val (.int p4), .val (.int r5), .val (.int r6), .val (.ref (ct c0 c1 c2 c3 (p0 &&& 3))), .val (.ref (ct c0 c1 c2 c3 (r5 &&& 3))), .val (.ref u1), .val (.ref u2), .val (.ref x467), .val (.ref x483), .val (.int r13), .val (.int r14), .val (.int (((p4).toUInt32 >>> ((2 : Int32) &&& 31).toUInt32).toInt32 &&& (3 : Int32))), .val (.ref x483), .val (.int r17), .val (.int (1 : Int32))] []
    refine blk (pc' := 283) (Ls' := #[.val (.int p0), .val (.int p1), .val (.int p2), .val (.int p3), .val (.int p4), .val (.int r5), .val (.int r6), .val (.ref (ct c0 c1 c2 c3 (p0 &&& 3))), .val (.ref (ct c0 c1 c2 c3 (r5 &&& 3))), .val (.ref u1), .val (.ref u2), .val (.ref x467), .val (.ref x483), .val (.int r13), .val (.int r14), .val (.int (((p4).toUInt32 >>> ((2 : Int32) &&& 31).toUInt32).toInt32 &&& (3 : Int32))), .val (.ref x483), .val (.int r17), .val (.int (1 : Int32))]) (st' := [(.ref x467), (.ref x483)]) [oAload w561.ok (dc.g 142 rfl), oAload w561.ok (dc.g 143 rfl)] rfl ?_
    refine w561.callV (wd hw 121 rfl) (wd hw 122 rfl) (notFace (wd hw 124 rfl)) (wd hw 124 rfl) (wd hw 123 rfl) (by decide) (a := x483) XB2 (argsL := [(.ref x467)]) (Wd := 0) (Ctr.pays (len := 3) (Wd := 0) (c_eqB l Z a0 hw hEL hJS hJA c0 c1 c2 c3 hCT (w561.old ozs) A2 B2 XB1 A1 B1 S2 S1 (kcs_L _) (kcs_L _)) w561 (wd hw 125 rfl) (wd hw 53 rfl) hEL (by decide) (by decide) sfNil) pd14 rfl (st := []) rfl rfl (Nat.le_of_eq rfl) (dc.g 144 rfl) (by decide) (by decide) ?_
    intro vm567 T568 h569 v570 w571 C572 Q573
    obtain ⟨eQ573, rfl⟩ := Q573
    subst eQ573
    show Go κ _ T568 286 #[.val (.int p0), .val (.int p1), .val (.int p2), .val (.int p3), .val (.int p4), .val (.int r5), .val (.int r6), .val (.ref (ct c0 c1 c2 c3 (p0 &&& 3))), .val (.ref (ct c0 c1 c2 c3 (r5 &&& 3))), .val (.ref u1), .val (.ref u2), .val (.ref x467), .val (.ref x483), .val (.int r13), .val (.int r14), .val (.int (((p4).toUInt32 >>> ((2 : Int32) &&& 31).toUInt32).toInt32 &&& (3 : Int32))), .val (.ref x483), .val (.int r17), .val (.int (1 : Int32))] [(.int (if (ct c0 c1 c2 c3 (r5 &&& 3)) = (ct c0 c1 c2 c3 (p0 &&& 3)) ∧ kcs r6 = kcs p2 then (1 : Int32) else 0))]
    refine blk (pc' := 288) (Ls' := #[.val (.int p0), .val (.int p1), .val (.int p2), .val (.int p3), .val (.int p4), .val (.int r5), .val (.int r6), .val (.ref (ct c0 c1 c2 c3 (p0 &&& 3))), .val (.ref (ct c0 c1 c2 c3 (r5 &&& 3))), .val (.ref u1), .val (.ref u2), .val (.ref x467), .val (.ref x483), .val (.int r13), .val (.int r14), .val (.int (((p4).toUInt32 >>> ((2 : Int32) &&& 31).toUInt32).toInt32 &&& (3 : Int32))), .val (.ref x483), .val (.int r17), .val (.int (1 : Int32))]) (st' := [(.int r17), (.int (if (ct c0 c1 c2 c3 (r5 &&& 3)) = (ct c0 c1 c2 c3 (p0 &&& 3)) ∧ kcs r6 = kcs p2 then (1 : Int32) else 0))]) [oIload w571.ok (dc.g 145 rfl)] rfl ?_
    refine cNe (pc' := 295) w571.ok (dc.g 146 rfl) (by decide) (by decide) (fun hc574 => absurd (by rw [hr17]; simp only [eq_comm]) hc574) (fun hc574 => ?_)
    show Go κ _ T568 291 #[.val (.int p0), .val (.int p1), .val (.int p2), .val (.int p3), .val (.int p4), .val (.int r5), .val (.int r6), .val (.ref (ct c0 c1 c2 c3 (p0 &&& 3))), .val (.ref (ct c0 c1 c2 c3 (r5 &&& 3))), .val (.ref u1), .val (.ref u2), .val (.ref x467), .val (.ref x483), .val (.int r13), .val (.int r14), .val (.int (((p4).toUInt32 >>> ((2 : Int32) &&& 31).toUInt32).toInt32 &&& (3 : Int32))), .val (.ref x483), .val (.int r17), .val (.int (1 : Int32))] []
    refine blk (pc' := 300) (Ls' := #[.val (.int p0), .val (.int p1), .val (.int p2), .val (.int p3), .val (.int p4), .val (.int r5), .val (.int r6), .val (.ref (ct c0 c1 c2 c3 (p0 &&& 3))), .val (.ref (ct c0 c1 c2 c3 (r5 &&& 3))), .val (.ref u1), .val (.ref u2), .val (.ref x467), .val (.ref x483), .val (.int r13), .val (.int r14), .val (.int (((p4).toUInt32 >>> ((2 : Int32) &&& 31).toUInt32).toInt32 &&& (3 : Int32))), .val (.ref x483), .val (.int r17), .val (.int (1 : Int32))]) (st' := [(.int (1 : Int32))]) [oIconst w571.ok (dc.g 147 rfl), oGoto w571.ok 296 (dc.g 148 rfl), oIstore w571.ok (dc.g 150 rfl), oIload w571.ok (dc.g 151 rfl)] rfl ?_
    exact w571.retI (t := .boolean) rfl (Or.inr (Or.inl rfl)) rfl (dc.g 152 rfl) (by decide) (by decide) (fun S hS => rfl)
set_option maxRecDepth 65536 in
set_option maxHeartbeats 4000000 in
theorem comes_1 {Post : Tables → Env → Array Value → State → Outcome → State → Prop} (hpost : ∀ tb e args s v u, (limb_1_1.after args s (.returned v) u = true ∧ limb_1_2.after args s (.returned v) u = true ∧ True) → ReturnedEndW s (.returned v) u (Jvm.fieldLocs frame_1_writes args s ++ Jvm.arrayLocs frame_1_arrays args s ++ Jvm.staticLocs frame_1_statics s) 32 2176 → Post tb e args s (.returned v) u) :
    ArmFor flags0 classFile x code maxLocals ret World_1 tables_1 room_1 Calls_1 rest_1 Pre_1 Post := by
  intro l hfl _ _ p e ha hc hk s m args below hf hA hF happ hP
  obtain ⟨hcalls, hrest, hpre⟩ := hP
  obtain ⟨-, -, -, hnamed, -, -, -, hat⟩ := (Spec.applies_iff hf).mp happ
  obtain ⟨hg, hn⟩ := and_e (Cond.before_iff.mp (show (Jvm.Cond.and given_1 narrow_1).before args s = true from hpre))
  obtain ⟨hct, q0⟩ := and_e hg
  obtain ⟨g0, q1⟩ := and_e q0
  obtain ⟨g1, q2⟩ := and_e q1
  obtain ⟨g2, q3⟩ := and_e q2
  obtain ⟨g3, q4⟩ := and_e q3
  have g4 := q4
  obtain ⟨w0, w1, w2, w3, w4, rfl⟩ : ∃ w0 w1 w2 w3 w4 : Value, args = #[w0, w1, w2, w3, w4] := by
    have hs : args.size = 5 := by simpa [Cond.value, given_1] using hct
    obtain ⟨L⟩ := args
    match L, hs with
    | [w0, w1, w2, w3, w4], _ => exact ⟨w0, w1, w2, w3, w4, rfl⟩
  obtain ⟨i0, e0⟩ := is_v g0
  obtain rfl : w0 = (.int i0) := Option.some.inj e0
  obtain ⟨i1, e1⟩ := is_v g1
  obtain rfl : w1 = (.int i1) := Option.some.inj e1
  obtain ⟨i2, e2⟩ := is_v g2
  obtain rfl : w2 = (.int i2) := Option.some.inj e2
  obtain ⟨i3, e3⟩ := is_v g3
  obtain rfl : w3 = (.int i3) := Option.some.inj e3
  obtain ⟨i4, e4⟩ := is_v g4
  obtain rfl : w4 = (.int i4) := Option.some.inj e4
  have hw := fun d (hd : d ∈ tables_1) => atoms_spec (ws := Jvm.Cond.code x code maxLocals ret :: tables_1) hat d (List.mem_cons_of_mem _ hd)
  obtain ⟨hsets, hown0⟩ := atoms_of _ (rest_1_c_eq ▸ (show rest_1_c.before _ s = true from hrest))
  have hfit : Fit s := fun {y c} hc i hi => by
    obtain ⟨ha, rfl⟩ := Array.getElem?_eq_some_iff.mp hc
    have q := List.all_eq_true.mp ((Array.all_eq_true_iff_forall_mem.mp hF) _ (Array.getElem_mem ha)) i (List.mem_range.mpr hi)
    simpa [Array.getElem?_eq_getElem hi] using q
  have n5 := not_v (Cond.before_iff.mp (hsets _ (List.mem_of_getElem? (i := 2) rfl)))
  obtain ⟨zc, ez⟩ := is_v (Cond.before_iff.mp (hsets _ (List.mem_of_getElem? (i := 1) rfl)))
  have Scs : Sta s s.heap "java/lang/String" "COMPACT_STRINGS" "Z" (.int zc) := Sta.start ez (Or.inl (hsets _ (List.mem_of_getElem? (i := 0) rfl)))
  have ncs : ¬ (zc = (0 : Int32)) := gotF (Cond.eq_ints ez (Term.int_eval (0))) n5
  obtain ⟨vf, ef, rf⟩ := isR_v (Cond.before_iff.mp (hsets _ (List.mem_of_getElem? (i := 8) rfl)))
  have Sf0 : Sta s s.heap "jdk/internal/util/Preconditions" "SIOOBE_FORMATTER" "Ljava/util/function/BiFunction;" vf := Sta.start ef (Or.inl (hsets _ (List.mem_of_getElem? (i := 7) rfl)))
  have hJS : JS s := ⟨⟨zc, Scs, ncs⟩, vf, Sf0, rf⟩
  obtain ⟨xi, exi⟩ := exa_v (Cond.before_iff.mp (hsets _ (List.mem_of_getElem? (i := 11) rfl)))
  obtain ⟨xa, exa⟩ := arr_v (Cond.before_iff.mp (hsets _ (List.mem_of_getElem? (i := 14) rfl)))
  have hJA : JA s := ⟨⟨xi, Sta.start exi (Or.inl (hsets _ (List.mem_of_getElem? (i := 10) rfl))), Exa.start exi (Cond.before_iff.mp (hsets _ (List.mem_of_getElem? (i := 11) rfl)))⟩, xa, Sta.start exa (Or.inl (hsets _ (List.mem_of_getElem? (i := 13) rfl))), Ary.ofStatic exa (Cond.before_iff.mp (hsets _ (List.mem_of_getElem? (i := 14) rfl))) 256 (by decide) (own_eqi (Cond.before_iff.mp (hsets _ (List.mem_of_getElem? (i := 16) rfl)))) (by decide) (fun i v hv => own_eqi (Cond.before_iff.mp (hsets _ (own_row hv))))⟩
  obtain ⟨z0, hn1⟩ := and_e hn
  obtain ⟨z1, hn2⟩ := and_e hn1
  obtain ⟨z2, hn3⟩ := and_e hn2
  obtain ⟨z3, hn4⟩ := and_e hn3
  obtain ⟨z4, hn5⟩ := and_e hn4
  obtain ⟨z5, hn6⟩ := and_e hn5
  obtain ⟨z6, hn7⟩ := and_e hn6
  have z7 := hn7
  obtain ⟨y0, ey0⟩ := exa_v z0
  have F0 := Fld.start (own_fldi ey0 (own_eqi z2))
  obtain ⟨y1, ey1⟩ := exa_v z5
  have F1 := Fld.start (own_fldi ey1 (own_eqi z7))
  obtain ⟨y2, ey2⟩ := exa_v z4
  have F2 := Fld.start (own_fldi ey2 (own_eqi z6))
  obtain ⟨y3, ey3⟩ := exa_v z1
  have F3 := Fld.start (own_fldi ey3 (own_eqi z3))
  have hCT : CT s y0 y1 y2 y3 := ⟨⟨Sta.start ey0 (Or.inr ⟨hw _ (List.mem_of_getElem? (i := 14) rfl), hw _ (List.mem_of_getElem? (i := 15) rfl)⟩), Exa.start ey0 z0⟩, ⟨Sta.start ey1 (Or.inr ⟨hw _ (List.mem_of_getElem? (i := 14) rfl), hw _ (List.mem_of_getElem? (i := 142) rfl)⟩), Exa.start ey1 z5⟩, ⟨Sta.start ey2 (Or.inr ⟨hw _ (List.mem_of_getElem? (i := 14) rfl), hw _ (List.mem_of_getElem? (i := 136) rfl)⟩), Exa.start ey2 z4⟩, ⟨Sta.start ey3 (Or.inr ⟨hw _ (List.mem_of_getElem? (i := 14) rfl), hw _ (List.mem_of_getElem? (i := 17) rfl)⟩), Exa.start ey3 z1⟩, (fun q => absurd (own_ne F0 F1 q) (by decide)), (fun q => absurd (own_ne F0 F2 q) (by decide)), (fun q => absurd (own_ne F0 F3 q) (by decide)), (fun q => absurd (own_ne F1 F2 q) (by decide)), (fun q => absurd (own_ne F1 F3 q) (by decide)), (fun q => absurd (own_ne F2 F3 q) (by decide))⟩
  obtain ⟨n, o, h1, h2, h3, _, L, rfl, ⟨rfl, N⟩, hNw, hq⟩ := c_law l s _ hw EW.nil hJS hJA _ _ _ _ hCT s.heap ⟨Nat.le_refl _, fun _ _ q => q⟩ tables_1 p e ha hc hk s m _ below hf ((Spec.applies_iff_loose hf).mp happ).1 ⟨rfl, State.Warmed39.refl s, rfl, (fun _ h => nomatch h), fun _ h => nomatch h⟩ trivial
  refine ⟨n, _, h1, h2, h3, hpost _ _ _ _ _ _ ⟨Cond.after_iff.mpr rfl, Cond.after_iff.mpr (eq_i res_at (Term.int_eval (1)) rfl), trivial⟩ ⟨hq.1, hq.2.1, hq.2.2.1, (hq.2.2.2.sift fun y hy => Or.inr (N y hy)).mono (by decide) (by decide)⟩⟩
theorem main_1_1 : Claimed_1_1 := comes_1 fun _ _ _ _ _ _ h hF => ⟨h.1, hF⟩
theorem main_1_2 : Claimed_1_2 := comes_1 fun _ _ _ _ _ _ h hF => ⟨h.2.1, hF⟩
end Jvm.Pilot.@@N@@
namespace Jvm.Pilot.@@N@@
open Jvm Jvm.ClassFile Sem Op Lib Jvm.Free Jvm.Stand Jvm.Pilot.@@N@@.Jvm.D
/-! MADE BY PROGRAM (witnessworld.py) out of the Statement's table words and the real class files: 26 classes; the members and pool entries that the words name. The judged class is class 1, her method 6. -/
namespace start1
open Jvm.ClassFile
def u (s : String) : CpInfo := .utf8 (stringToUtf16 s)
/-- a pool by its gaps: so many unusable entries, then the entry; so many at the end -/
def gap : Nat → List CpInfo → List CpInfo
  | 0, r => r
  | n + 1, r => .unusable :: gap n r
def poolList (es : List (Nat × CpInfo)) (last : Nat) : List CpInfo := es.foldr (fun e r => gap e.1 (e.2 :: r)) (gap last [])
def pool (es : List (Nat × CpInfo)) (last : Nat) : Array CpInfo := ⟨poolList es last⟩
def fileOf (pool : Array CpInfo) (this : Nat) (attrs : Array Attribute := #[]) (ms : Array MethodInfo := #[]) (fl : Nat := 33) (sup : Nat := 0) (ifs : Array Nat := #[]) (fds : Array FieldInfo := #[]) : ClassFile where
  minorVersion := 0
  majorVersion := 65
  constantPool := pool
  accessFlags := fl
  thisClass := this
  superClass := sup
  interfaces := ifs
  fields := fds
  methods := ms
  attributes := attrs
def plain (name : String) (sup : Option ClassId) : Class where
  name := name
  kind := .ordinary
  loader := none
  accessFlags := 33
  super := sup
  interfaces := #[]
  cf := none
  fields := #[]
  methods := #[]
  instanceTypes := #[]
  staticTypes := #[]
  resolved := #[]
  callSites := []
  init := .initialized
  statics := none
  mirror := none

def pool0 : Array CpInfo := pool [(5, u "<init>"), (0, u "()V"), (1, .class_ 10), (1, u "java/lang/Object")] 113

def k0c0 : Code := { maxStack := 0, maxLocals := 1, code := object_method_1_code, exceptionTable := #[], attributes := #[] }
def k0m0 : Method := { name := "<init>", desc := "()V", sig := { parameters := [], returnType := none }, accessFlags := 1, code := some k0c0 }
/-- java/lang/Object -/
def k0 : Class := { plain "java/lang/Object" none with
  accessFlags := 33
  interfaces := #[]
  cf := some (fileOf pool0 8 #[] #[{ accessFlags := 1, nameIndex := 5, descriptorIndex := 6, attributes := #[] }] 33 0 #[] #[])
  fields := #[]
  methods := #[k0m0]
  instanceTypes := #[]
  staticTypes := #[]
  resolved := Array.replicate 124 none
  statics := none }

def pool1 : Array CpInfo := pool [(2, .class_ 4), (1, u "java/lang/Object"), (0, u "<init>"), (0, u "()V"), (0, .fieldref 8 9), (0, .class_ 10), (0, .nameAndType 11 12), (0, u "com/example/faturista/faturista/engine/missedcharges/ChargeCategory"), (0, u "PROCEDURE"), (0, u "Lcom/example/faturista/faturista/engine/missedcharges/ChargeCategory;"), (0, .fieldref 8 14), (0, .nameAndType 15 12), (0, u "SUPPLY"), (0, .fieldref 8 17), (0, .nameAndType 18 12), (0, u "LAB"), (0, .fieldref 8 20), (0, .nameAndType 21 12), (0, u "IMAGING"), (0, .methodref 23 24), (0, .class_ 25), (0, .nameAndType 26 27), (0, u "com/example/faturista/faturista/engine/missedcharges/BilledLineEqualsPinLaw"), (0, u "len"), (0, u "(I)I"), (0, .methodref 23 29), (0, .nameAndType 30 31), (0, u "ws"), (0, u "(I)Z"), (0, .class_ 33), (0, u "java/lang/String"), (0, .methodref 32 35), (0, .nameAndType 5 36), (0, u "([C)V"), (0, .methodref 23 38), (0, .nameAndType 39 31), (0, u "blank"), (0, .methodref 23 41), (0, .nameAndType 42 43), (0, u "cat"), (0, u "(I)Lcom/example/faturista/faturista/engine/missedcharges/ChargeCategory;"), (0, .methodref 23 45), (0, .nameAndType 46 47), (0, u "key"), (0, u "(I)Ljava/lang/String;"), (0, .class_ 49), (0, u "com/example/faturista/faturista/engine/missedcharges/BilledLine"), (0, .methodref 48 51), (0, .nameAndType 5 52), (0, u "(Lcom/example/faturista/faturista/engine/missedcharges/ChargeCategory;Ljava/lang/String;)V"), (0, .methodref 48 54), (0, .nameAndType 55 56), (0, u "equals"), (0, u "(Ljava/lang/Object;)Z"), (3, u "law"), (0, u "(IIIII)Z")] 2

def k1m0 : Method := { name := "<init>", desc := "()V", sig := { parameters := [], returnType := none }, accessFlags := 1, code := none }
def k1c1 : Code := { maxStack := 2, maxLocals := 2, code := method_2_code, exceptionTable := #[], attributes := #[] }
def k1m1 : Method := { name := "cat", desc := "(I)Lcom/example/faturista/faturista/engine/missedcharges/ChargeCategory;", sig := { parameters := [.int], returnType := some (.object "com/example/faturista/faturista/engine/missedcharges/ChargeCategory") }, accessFlags := 10, code := some k1c1 }
def k1c2 : Code := { maxStack := 2, maxLocals := 1, code := method_3_code, exceptionTable := #[], attributes := #[] }
def k1m2 : Method := { name := "ws", desc := "(I)Z", sig := { parameters := [.int], returnType := some .boolean }, accessFlags := 10, code := some k1c2 }
def k1c3 : Code := { maxStack := 3, maxLocals := 1, code := method_4_code, exceptionTable := #[], attributes := #[] }
def k1m3 : Method := { name := "len", desc := "(I)I", sig := { parameters := [.int], returnType := some .int }, accessFlags := 10, code := some k1c3 }
def k1c4 : Code := { maxStack := 2, maxLocals := 3, code := method_5_code, exceptionTable := #[], attributes := #[] }
def k1m4 : Method := { name := "blank", desc := "(I)Z", sig := { parameters := [.int], returnType := some .boolean }, accessFlags := 10, code := some k1c4 }
def k1c5 : Code := { maxStack := 6, maxLocals := 3, code := method_6_code, exceptionTable := #[], attributes := #[] }
def k1m5 : Method := { name := "key", desc := "(I)Ljava/lang/String;", sig := { parameters := [.int], returnType := some (.object "java/lang/String") }, accessFlags := 10, code := some k1c5 }
def k1c6 : Code := { maxStack := 4, maxLocals := 19, code := code, exceptionTable := #[], attributes := #[] }
def k1m6 : Method := { name := "law", desc := "(IIIII)Z", sig := { parameters := [.int, .int, .int, .int, .int], returnType := some .boolean }, accessFlags := 9, code := some k1c6 }
/-- com/example/faturista/faturista/engine/missedcharges/BilledLineEqualsPinLaw -/
def k1 : Class := { plain "com/example/faturista/faturista/engine/missedcharges/BilledLineEqualsPinLaw" (some 0) with
  accessFlags := 49
  interfaces := #[]
  cf := some (fileOf pool1 23 #[] #[{ accessFlags := 1, nameIndex := 5, descriptorIndex := 6, attributes := #[] }, { accessFlags := 10, nameIndex := 42, descriptorIndex := 43, attributes := #[] }, { accessFlags := 10, nameIndex := 30, descriptorIndex := 31, attributes := #[] }, { accessFlags := 10, nameIndex := 26, descriptorIndex := 27, attributes := #[] }, { accessFlags := 10, nameIndex := 39, descriptorIndex := 31, attributes := #[] }, { accessFlags := 10, nameIndex := 46, descriptorIndex := 47, attributes := #[] }, { accessFlags := 9, nameIndex := 60, descriptorIndex := 61, attributes := #[] }] 49 2 #[] #[])
  fields := #[]
  methods := #[k1m0, k1m1, k1m2, k1m3, k1m4, k1m5, k1m6]
  instanceTypes := #[]
  staticTypes := #[]
  resolved := Array.replicate 64 none
  statics := none }

def pool2 : Array CpInfo := pool [(1, .class_ 2), (0, u "java/lang/constant/Constable"), (0, .class_ 4), (0, u "java/lang/Object")] 6

/-- java/lang/constant/Constable -/
def k2 : Class := { plain "java/lang/constant/Constable" (some 0) with
  accessFlags := 1537
  interfaces := #[]
  cf := some (fileOf pool2 1 #[] #[] 1537 3 #[] #[])
  fields := #[]
  methods := #[]
  instanceTypes := #[]
  staticTypes := #[]
  resolved := Array.replicate 11 none
  statics := none }

def pool3 : Array CpInfo := pool [(1, .class_ 2), (0, u "java/lang/Comparable"), (0, .class_ 4), (0, u "java/lang/Object")] 7

/-- java/lang/Comparable -/
def k3 : Class := { plain "java/lang/Comparable" (some 0) with
  accessFlags := 1537
  interfaces := #[]
  cf := some (fileOf pool3 1 #[] #[] 1537 3 #[] #[])
  fields := #[]
  methods := #[]
  instanceTypes := #[]
  staticTypes := #[]
  resolved := Array.replicate 12 none
  statics := none }

def pool4 : Array CpInfo := pool [(1, .class_ 2), (0, u "java/io/Serializable"), (0, .class_ 4), (0, u "java/lang/Object")] 2

/-- java/io/Serializable -/
def k4 : Class := { plain "java/io/Serializable" (some 0) with
  accessFlags := 1537
  interfaces := #[]
  cf := some (fileOf pool4 1 #[] #[] 1537 3 #[] #[])
  fields := #[]
  methods := #[]
  instanceTypes := #[]
  staticTypes := #[]
  resolved := Array.replicate 7 none
  statics := none }

def pool5 : Array CpInfo := pool [(2, .class_ 4), (1, u "java/lang/Enum"), (0, u "name"), (0, u "Ljava/lang/String;"), (2, u "ordinal"), (0, u "I"), (1, .class_ 14), (1, u "java/lang/Object"), (4, u "hash"), (86, .class_ 108), (1, u "java/lang/Enum$EnumDesc"), (2, .class_ 112), (0, u "java/lang/constant/Constable"), (0, .class_ 114), (0, u "java/lang/Comparable"), (0, .class_ 116), (0, u "java/io/Serializable")] 87

/-- java/lang/Enum -/
def k5 : Class := { plain "java/lang/Enum" (some 0) with
  accessFlags := 1057
  interfaces := #[2, 3, 4]
  cf := some (fileOf pool5 2 #[.nestMembers #[106]] #[] 1057 12 #[111, 113, 115] #[{ accessFlags := 18, nameIndex := 5, descriptorIndex := 6, attributes := #[] }, { accessFlags := 18, nameIndex := 9, descriptorIndex := 10, attributes := #[] }, { accessFlags := 2, nameIndex := 19, descriptorIndex := 10, attributes := #[] }])
  fields := #[{ name := "name", type := (.object "java/lang/String"), accessFlags := 18, slot := 0, constantValue := 0 }, { name := "ordinal", type := .int, accessFlags := 18, slot := 1, constantValue := 0 }, { name := "hash", type := .int, accessFlags := 2, slot := 2, constantValue := 0 }]
  methods := #[]
  instanceTypes := #[(.object "java/lang/String"), .int, .int]
  staticTypes := #[]
  resolved := Array.replicate 204 none
  statics := none }

def pool6 : Array CpInfo := pool [(1, .class_ 2), (0, u "com/example/faturista/faturista/engine/missedcharges/ChargeCategory"), (2, u "PROCEDURE"), (0, u "Lcom/example/faturista/faturista/engine/missedcharges/ChargeCategory;"), (2, u "SUPPLY"), (2, u "LAB"), (2, u "IMAGING"), (2, u "$VALUES"), (0, u "[Lcom/example/faturista/faturista/engine/missedcharges/ChargeCategory;"), (6, .class_ 28), (1, u "java/lang/Enum"), (8, u "billedByCode"), (0, u "Z")] 25

/-- com/example/faturista/faturista/engine/missedcharges/ChargeCategory -/
def k6 : Class := { plain "com/example/faturista/faturista/engine/missedcharges/ChargeCategory" (some 5) with
  accessFlags := 16433
  interfaces := #[]
  cf := some (fileOf pool6 1 #[] #[] 16433 26 #[] #[{ accessFlags := 16409, nameIndex := 5, descriptorIndex := 6, attributes := #[] }, { accessFlags := 16409, nameIndex := 9, descriptorIndex := 6, attributes := #[] }, { accessFlags := 16409, nameIndex := 12, descriptorIndex := 6, attributes := #[] }, { accessFlags := 16409, nameIndex := 15, descriptorIndex := 6, attributes := #[] }, { accessFlags := 18, nameIndex := 37, descriptorIndex := 38, attributes := #[] }, { accessFlags := 4122, nameIndex := 18, descriptorIndex := 19, attributes := #[] }])
  fields := #[{ name := "PROCEDURE", type := (.object "com/example/faturista/faturista/engine/missedcharges/ChargeCategory"), accessFlags := 16409, slot := 0, constantValue := 0 }, { name := "SUPPLY", type := (.object "com/example/faturista/faturista/engine/missedcharges/ChargeCategory"), accessFlags := 16409, slot := 1, constantValue := 0 }, { name := "LAB", type := (.object "com/example/faturista/faturista/engine/missedcharges/ChargeCategory"), accessFlags := 16409, slot := 2, constantValue := 0 }, { name := "IMAGING", type := (.object "com/example/faturista/faturista/engine/missedcharges/ChargeCategory"), accessFlags := 16409, slot := 3, constantValue := 0 }, { name := "billedByCode", type := .boolean, accessFlags := 18, slot := 3, constantValue := 0 }, { name := "$VALUES", type := (.array (.object "com/example/faturista/faturista/engine/missedcharges/ChargeCategory")), accessFlags := 4122, slot := 4, constantValue := 0 }]
  methods := #[]
  instanceTypes := #[(.object "java/lang/String"), .int, .int, .boolean]
  staticTypes := #[(.object "com/example/faturista/faturista/engine/missedcharges/ChargeCategory"), (.object "com/example/faturista/faturista/engine/missedcharges/ChargeCategory"), (.object "com/example/faturista/faturista/engine/missedcharges/ChargeCategory"), (.object "com/example/faturista/faturista/engine/missedcharges/ChargeCategory"), (.array (.object "com/example/faturista/faturista/engine/missedcharges/ChargeCategory"))]
  resolved := Array.replicate 64 none
  statics := some 0 }

def pool7 : Array CpInfo := pool [(2, .class_ 4), (1, u "java/lang/CharSequence"), (42, .class_ 48), (0, u "java/lang/CharSequence$1CodePointIterator"), (10, .class_ 60), (0, u "java/lang/CharSequence$1CharIterator"), (5, .class_ 67), (0, u "java/lang/Object")] 63

/-- java/lang/CharSequence -/
def k7 : Class := { plain "java/lang/CharSequence" (some 0) with
  accessFlags := 1537
  interfaces := #[]
  cf := some (fileOf pool7 2 #[.nestMembers #[47, 59]] #[] 1537 66 #[] #[])
  fields := #[]
  methods := #[]
  instanceTypes := #[]
  staticTypes := #[]
  resolved := Array.replicate 131 none
  statics := none }

def pool8 : Array CpInfo := pool [(1, .class_ 2), (0, u "java/lang/constant/ConstantDesc"), (0, .class_ 4), (0, u "java/lang/Object")] 32

/-- java/lang/constant/ConstantDesc -/
def k8 : Class := { plain "java/lang/constant/ConstantDesc" (some 0) with
  accessFlags := 1537
  interfaces := #[]
  cf := some (fileOf pool8 1 #[] #[] 1537 3 #[] #[])
  fields := #[]
  methods := #[]
  instanceTypes := #[]
  staticTypes := #[]
  resolved := Array.replicate 37 none
  statics := none }

def pool9 : Array CpInfo := pool [(1, .methodref 2 3), (0, .class_ 4), (0, .nameAndType 5 6), (0, u "java/lang/Object"), (0, u "<init>"), (0, u "()V"), (2, .fieldref 10 11), (0, .class_ 12), (0, .nameAndType 13 14), (0, u "java/lang/String"), (0, u "value"), (0, u "[B"), (0, .fieldref 10 16), (0, .nameAndType 17 18), (0, u "coder"), (0, u "B"), (2, u "hash"), (0, u "I"), (2, u "hashIsZero"), (0, u "Z"), (0, .methodref 10 28), (0, .nameAndType 5 29), (0, u "([CIILjava/lang/Void;)V"), (8, .fieldref 10 39), (0, .nameAndType 40 26), (0, u "COMPACT_STRINGS"), (1, .class_ 44), (1, u "java/lang/StringUTF16"), (0, u "compress"), (1, .methodref 42 48), (0, .nameAndType 49 50), (0, u "coderFromArrayLen"), (0, u "([BI)B"), (56, .class_ 109), (1, u "java/lang/StringLatin1"), (32, u "()Z"), (34, .methodref 42 178), (0, .nameAndType 45 179), (0, u "([CII)[B"), (154, u "()I"), (0, .methodref 10 336), (0, .nameAndType 17 337), (0, u "()B"), (154, .methodref 10 493), (0, .nameAndType 494 142), (0, u "isLatin1"), (10, .methodref 10 506), (0, .nameAndType 507 334), (0, u "length"), (33, .methodref 107 542), (0, .nameAndType 543 544), (0, u "equals"), (0, u "([B[B)Z"), (28, u "(Ljava/lang/Object;)Z"), (1, .class_ 576), (0, u "java/lang/CharSequence"), (22, u "CASE_INSENSITIVE_ORDER"), (0, u "Ljava/util/Comparator;"), (30, u "([B)I"), (244, .methodref 10 877), (0, .nameAndType 878 334), (0, u "indexOfNonWhitespace"), (45, .methodref 107 925), (0, .nameAndType 878 631), (26, u "isBlank"), (57, u "([C)V"), (90, u "serialPersistentFields"), (0, u "[Ljava/io/ObjectStreamField;"), (0, .class_ 1104), (0, u "java/lang/String$CaseInsensitiveComparator"), (1, .class_ 1107), (0, u "java/io/Serializable"), (0, .class_ 1109), (0, u "java/lang/Comparable"), (0, .class_ 1111), (0, u "java/lang/constant/Constable"), (0, .class_ 1113), (0, u "java/lang/constant/ConstantDesc"), (2, u "serialVersionUID"), (0, u "J"), (3, u "REPL"), (0, u "C"), (2, u "LATIN1"), (1, u "UTF16")] 323

def k9m0 : Method := { name := "<init>", desc := "()V", sig := { parameters := [], returnType := none }, accessFlags := 1, code := none }
def k9c1 : Code := { maxStack := 5, maxLocals := 2, code := jdk_42_method_3_code, exceptionTable := #[], attributes := #[] }
def k9m1 : Method := { name := "<init>", desc := "([C)V", sig := { parameters := [(.array .char)], returnType := none }, accessFlags := 1, code := some k9c1 }
def k9c2 : Code := { maxStack := 2, maxLocals := 1, code := jdk_42_method_54_code, exceptionTable := #[], attributes := #[] }
def k9m2 : Method := { name := "length", desc := "()I", sig := { parameters := [], returnType := some .int }, accessFlags := 1, code := some k9c2 }
def k9c3 : Code := { maxStack := 2, maxLocals := 3, code := jdk_42_method_66_code, exceptionTable := #[], attributes := #[] }
def k9m3 : Method := { name := "equals", desc := "(Ljava/lang/Object;)Z", sig := { parameters := [(.object "java/lang/Object")], returnType := some .boolean }, accessFlags := 1, code := some k9c3 }
def k9c4 : Code := { maxStack := 2, maxLocals := 1, code := jdk_42_method_117_code, exceptionTable := #[], attributes := #[] }
def k9m4 : Method := { name := "isBlank", desc := "()Z", sig := { parameters := [], returnType := some .boolean }, accessFlags := 1, code := some k9c4 }
def k9c5 : Code := { maxStack := 1, maxLocals := 1, code := jdk_42_method_120_code, exceptionTable := #[], attributes := #[] }
def k9m5 : Method := { name := "indexOfNonWhitespace", desc := "()I", sig := { parameters := [], returnType := some .int }, accessFlags := 2, code := some k9c5 }
def k9c6 : Code := { maxStack := 4, maxLocals := 6, code := jdk_42_method_149_code, exceptionTable := #[], attributes := #[] }
def k9m6 : Method := { name := "<init>", desc := "([CIILjava/lang/Void;)V", sig := { parameters := [(.array .char), .int, .int, (.object "java/lang/Void")], returnType := none }, accessFlags := 2, code := some k9c6 }
def k9c7 : Code := { maxStack := 1, maxLocals := 1, code := jdk_42_method_152_code, exceptionTable := #[], attributes := #[] }
def k9m7 : Method := { name := "coder", desc := "()B", sig := { parameters := [], returnType := some .byte }, accessFlags := 0, code := some k9c7 }
def k9c8 : Code := { maxStack := 1, maxLocals := 1, code := jdk_42_method_154_code, exceptionTable := #[], attributes := #[] }
def k9m8 : Method := { name := "isLatin1", desc := "()Z", sig := { parameters := [], returnType := some .boolean }, accessFlags := 0, code := some k9c8 }
/-- java/lang/String -/
def k9 : Class := { plain "java/lang/String" (some 0) with
  accessFlags := 49
  interfaces := #[4, 3, 7, 2, 8]
  cf := some (fileOf pool9 10 #[.nestMembers #[1103]] #[{ accessFlags := 1, nameIndex := 5, descriptorIndex := 6, attributes := #[] }, { accessFlags := 1, nameIndex := 5, descriptorIndex := 1010, attributes := #[] }, { accessFlags := 1, nameIndex := 507, descriptorIndex := 334, attributes := #[] }, { accessFlags := 1, nameIndex := 543, descriptorIndex := 573, attributes := #[] }, { accessFlags := 1, nameIndex := 952, descriptorIndex := 142, attributes := #[] }, { accessFlags := 2, nameIndex := 878, descriptorIndex := 334, attributes := #[] }, { accessFlags := 2, nameIndex := 5, descriptorIndex := 29, attributes := #[] }, { accessFlags := 0, nameIndex := 17, descriptorIndex := 337, attributes := #[] }, { accessFlags := 0, nameIndex := 494, descriptorIndex := 142, attributes := #[] }] 49 2 #[1106, 1108, 575, 1110, 1112] #[{ accessFlags := 18, nameIndex := 13, descriptorIndex := 14, attributes := #[] }, { accessFlags := 18, nameIndex := 17, descriptorIndex := 18, attributes := #[] }, { accessFlags := 2, nameIndex := 21, descriptorIndex := 22, attributes := #[] }, { accessFlags := 2, nameIndex := 25, descriptorIndex := 26, attributes := #[] }, { accessFlags := 26, nameIndex := 1116, descriptorIndex := 1117, attributes := #[] }, { accessFlags := 24, nameIndex := 40, descriptorIndex := 26, attributes := #[] }, { accessFlags := 26, nameIndex := 1101, descriptorIndex := 1102, attributes := #[] }, { accessFlags := 26, nameIndex := 1121, descriptorIndex := 1122, attributes := #[] }, { accessFlags := 25, nameIndex := 599, descriptorIndex := 600, attributes := #[] }, { accessFlags := 24, nameIndex := 1125, descriptorIndex := 18, attributes := #[] }, { accessFlags := 24, nameIndex := 1127, descriptorIndex := 18, attributes := #[] }])
  fields := #[{ name := "value", type := (.array .byte), accessFlags := 18, slot := 0, constantValue := 0 }, { name := "coder", type := .byte, accessFlags := 18, slot := 1, constantValue := 0 }, { name := "hash", type := .int, accessFlags := 2, slot := 2, constantValue := 0 }, { name := "hashIsZero", type := .boolean, accessFlags := 2, slot := 3, constantValue := 0 }, { name := "serialVersionUID", type := .long, accessFlags := 26, slot := 0, constantValue := 0 }, { name := "COMPACT_STRINGS", type := .boolean, accessFlags := 24, slot := 1, constantValue := 0 }, { name := "serialPersistentFields", type := (.array (.object "java/io/ObjectStreamField")), accessFlags := 26, slot := 2, constantValue := 0 }, { name := "REPL", type := .char, accessFlags := 26, slot := 3, constantValue := 0 }, { name := "CASE_INSENSITIVE_ORDER", type := (.object "java/util/Comparator"), accessFlags := 25, slot := 4, constantValue := 0 }, { name := "LATIN1", type := .byte, accessFlags := 24, slot := 5, constantValue := 0 }, { name := "UTF16", type := .byte, accessFlags := 24, slot := 6, constantValue := 0 }]
  methods := #[k9m0, k9m1, k9m2, k9m3, k9m4, k9m5, k9m6, k9m7, k9m8]
  instanceTypes := #[(.array .byte), .byte, .int, .boolean]
  staticTypes := #[.long, .boolean, (.array (.object "java/io/ObjectStreamField")), .char, (.object "java/util/Comparator"), .byte, .byte]
  resolved := Array.replicate 1451 none
  statics := some 1 }

def pool10 : Array CpInfo := pool [(6, .class_ 8), (1, u "java/lang/Object"), (0, u "<init>"), (0, u "()V"), (1, .class_ 14), (1, u "java/lang/StringUTF16"), (31, u "$assertionsDisabled"), (0, u "Z"), (13, u "HI_BYTE_SHIFT"), (0, u "I"), (2, u "LO_BYTE_SHIFT"), (49, .methodref 12 116), (0, .nameAndType 117 118), (0, u "compress"), (0, u "([CI[BII)I"), (3, u "([CII)[B"), (138, u "coderFromArrayLen"), (0, u "([BI)B"), (106, .class_ 371), (1, u "java/lang/StringUTF16$LinesSpliterator"), (58, u "MAX_LENGTH"), (196, .class_ 628), (0, u "java/lang/StringUTF16$CodePointsSpliterator"), (0, .class_ 630), (0, u "java/lang/StringUTF16$CharsSpliterator")] 4

def k10m0 : Method := { name := "<init>", desc := "()V", sig := { parameters := [], returnType := none }, accessFlags := 0, code := none }
def k10c1 : Code := { maxStack := 2, maxLocals := 2, code := jdk_52_method_15_code, exceptionTable := #[], attributes := #[] }
def k10m1 : Method := { name := "coderFromArrayLen", desc := "([BI)B", sig := { parameters := [(.array .byte), .int], returnType := some .byte }, accessFlags := 8, code := some k10c1 }
def k10c2 : Code := { maxStack := 5, maxLocals := 6, code := jdk_52_method_16_code, exceptionTable := #[], attributes := #[] }
def k10m2 : Method := { name := "compress", desc := "([CII)[B", sig := { parameters := [(.array .char), .int, .int], returnType := some (.array .byte) }, accessFlags := 9, code := some k10c2 }
def k10c3 : Code := { maxStack := 3, maxLocals := 7, code := jdk_52_method_21_code, exceptionTable := #[], attributes := #[] }
def k10m3 : Method := { name := "compress", desc := "([CI[BII)I", sig := { parameters := [(.array .char), .int, (.array .byte), .int, .int], returnType := some .int }, accessFlags := 9, code := some k10c3 }
/-- java/lang/StringUTF16 -/
def k10 : Class := { plain "java/lang/StringUTF16" (some 0) with
  accessFlags := 48
  interfaces := #[]
  cf := some (fileOf pool10 12 #[.nestMembers #[627, 629, 369]] #[{ accessFlags := 0, nameIndex := 9, descriptorIndex := 10, attributes := #[] }, { accessFlags := 8, nameIndex := 261, descriptorIndex := 262, attributes := #[] }, { accessFlags := 9, nameIndex := 117, descriptorIndex := 122, attributes := #[] }, { accessFlags := 9, nameIndex := 117, descriptorIndex := 118, attributes := #[] }] 48 6 #[] #[{ accessFlags := 26, nameIndex := 61, descriptorIndex := 62, attributes := #[] }, { accessFlags := 26, nameIndex := 65, descriptorIndex := 62, attributes := #[] }, { accessFlags := 24, nameIndex := 430, descriptorIndex := 62, attributes := #[] }, { accessFlags := 4120, nameIndex := 46, descriptorIndex := 47, attributes := #[] }])
  fields := #[{ name := "HI_BYTE_SHIFT", type := .int, accessFlags := 26, slot := 0, constantValue := 0 }, { name := "LO_BYTE_SHIFT", type := .int, accessFlags := 26, slot := 1, constantValue := 0 }, { name := "MAX_LENGTH", type := .int, accessFlags := 24, slot := 2, constantValue := 0 }, { name := "$assertionsDisabled", type := .boolean, accessFlags := 4120, slot := 3, constantValue := 0 }]
  methods := #[k10m0, k10m1, k10m2, k10m3]
  instanceTypes := #[]
  staticTypes := #[.int, .int, .int, .boolean]
  resolved := Array.replicate 635 none
  statics := none }

def pool11 : Array CpInfo := pool [(1, .methodref 2 3), (0, .class_ 4), (0, .nameAndType 5 6), (0, u "java/lang/Object"), (0, u "<init>"), (0, u "()V"), (0, .string 8), (0, u "category"), (0, .methodref 10 11), (0, .class_ 12), (0, .nameAndType 13 14), (0, u "java/util/Objects"), (0, u "requireNonNull"), (0, u "(Ljava/lang/Object;Ljava/lang/String;)Ljava/lang/Object;"), (0, .class_ 16), (0, u "com/example/faturista/faturista/engine/missedcharges/ChargeCategory"), (0, .fieldref 18 19), (0, .class_ 20), (0, .nameAndType 8 21), (0, u "com/example/faturista/faturista/engine/missedcharges/BilledLine"), (0, u "Lcom/example/faturista/faturista/engine/missedcharges/ChargeCategory;"), (0, .string 23), (0, u "key"), (0, .methodref 25 26), (0, .class_ 27), (0, .nameAndType 28 29), (0, u "com/example/faturista/faturista/engine/FieldChecks"), (0, u "requireNotBlank"), (0, u "(Ljava/lang/String;Ljava/lang/String;)Ljava/lang/String;"), (0, .fieldref 18 31), (0, .nameAndType 23 32), (0, u "Ljava/lang/String;"), (0, .methodref 34 35), (0, .class_ 36), (0, .nameAndType 37 38), (0, u "java/lang/String"), (0, u "equals"), (0, u "(Ljava/lang/Object;)Z"), (14, .class_ 54), (0, u "java/lang/Comparable"), (0, u "(Lcom/example/faturista/faturista/engine/missedcharges/ChargeCategory;Ljava/lang/String;)V")] 15

def k11c0 : Code := { maxStack := 3, maxLocals := 3, code := prog_79_method_1_code, exceptionTable := #[], attributes := #[] }
def k11m0 : Method := { name := "<init>", desc := "(Lcom/example/faturista/faturista/engine/missedcharges/ChargeCategory;Ljava/lang/String;)V", sig := { parameters := [(.object "com/example/faturista/faturista/engine/missedcharges/ChargeCategory"), (.object "java/lang/String")], returnType := none }, accessFlags := 1, code := some k11c0 }
def k11c1 : Code := { maxStack := 2, maxLocals := 3, code := prog_79_method_4_code, exceptionTable := #[], attributes := #[] }
def k11m1 : Method := { name := "equals", desc := "(Ljava/lang/Object;)Z", sig := { parameters := [(.object "java/lang/Object")], returnType := some .boolean }, accessFlags := 1, code := some k11c1 }
/-- com/example/faturista/faturista/engine/missedcharges/BilledLine -/
def k11 : Class := { plain "com/example/faturista/faturista/engine/missedcharges/BilledLine" (some 0) with
  accessFlags := 49
  interfaces := #[3]
  cf := some (fileOf pool11 18 #[] #[{ accessFlags := 1, nameIndex := 5, descriptorIndex := 55, attributes := #[] }, { accessFlags := 1, nameIndex := 37, descriptorIndex := 38, attributes := #[] }] 49 2 #[53] #[{ accessFlags := 18, nameIndex := 8, descriptorIndex := 21, attributes := #[] }, { accessFlags := 18, nameIndex := 23, descriptorIndex := 32, attributes := #[] }])
  fields := #[{ name := "category", type := (.object "com/example/faturista/faturista/engine/missedcharges/ChargeCategory"), accessFlags := 18, slot := 0, constantValue := 0 }, { name := "key", type := (.object "java/lang/String"), accessFlags := 18, slot := 1, constantValue := 0 }]
  methods := #[k11m0, k11m1]
  instanceTypes := #[(.object "com/example/faturista/faturista/engine/missedcharges/ChargeCategory"), (.object "java/lang/String")]
  staticTypes := #[]
  resolved := Array.replicate 71 none
  statics := none }

def pool12 : Array CpInfo := pool [(2, .class_ 4), (1, u "java/lang/Object"), (0, u "<init>"), (0, u "()V"), (35, .class_ 44), (1, u "java/util/Objects"), (0, u "requireNonNull"), (48, u "(Ljava/lang/Object;Ljava/lang/String;)Ljava/lang/Object;")] 89

def k12m0 : Method := { name := "<init>", desc := "()V", sig := { parameters := [], returnType := none }, accessFlags := 2, code := none }
def k12c1 : Code := { maxStack := 3, maxLocals := 2, code := jdk_31_method_11_code, exceptionTable := #[], attributes := #[] }
def k12m1 : Method := { name := "requireNonNull", desc := "(Ljava/lang/Object;Ljava/lang/String;)Ljava/lang/Object;", sig := { parameters := [(.object "java/lang/Object"), (.object "java/lang/String")], returnType := some (.object "java/lang/Object") }, accessFlags := 9, code := some k12c1 }
/-- java/util/Objects -/
def k12 : Class := { plain "java/util/Objects" (some 0) with
  accessFlags := 49
  interfaces := #[]
  cf := some (fileOf pool12 42 #[] #[{ accessFlags := 2, nameIndex := 5, descriptorIndex := 6, attributes := #[] }, { accessFlags := 9, nameIndex := 45, descriptorIndex := 94, attributes := #[] }] 49 2 #[] #[])
  fields := #[]
  methods := #[k12m0, k12m1]
  instanceTypes := #[]
  staticTypes := #[]
  resolved := Array.replicate 184 none
  statics := none }

def pool13 : Array CpInfo := pool [(2, .class_ 4), (1, u "java/lang/Object"), (0, u "<init>"), (0, u "()V"), (0, .methodref 8 9), (0, .class_ 10), (0, .nameAndType 11 12), (0, u "java/lang/String"), (0, u "isBlank"), (0, u "()Z"), (18, .class_ 33), (1, u "com/example/faturista/faturista/engine/FieldChecks"), (0, u "CPF"), (0, u "Ljava/util/regex/Pattern;"), (86, u "TWO_PLACES"), (0, u "I"), (4, u "requireNotBlank"), (0, u "(Ljava/lang/String;Ljava/lang/String;)Ljava/lang/String;")] 35

def k13m0 : Method := { name := "<init>", desc := "()V", sig := { parameters := [], returnType := none }, accessFlags := 2, code := none }
def k13c1 : Code := { maxStack := 4, maxLocals := 2, code := prog_16_method_2_code, exceptionTable := #[], attributes := #[] }
def k13m1 : Method := { name := "requireNotBlank", desc := "(Ljava/lang/String;Ljava/lang/String;)Ljava/lang/String;", sig := { parameters := [(.object "java/lang/String"), (.object "java/lang/String")], returnType := some (.object "java/lang/String") }, accessFlags := 9, code := some k13c1 }
/-- com/example/faturista/faturista/engine/FieldChecks -/
def k13 : Class := { plain "com/example/faturista/faturista/engine/FieldChecks" (some 0) with
  accessFlags := 49
  interfaces := #[]
  cf := some (fileOf pool13 31 #[] #[{ accessFlags := 2, nameIndex := 5, descriptorIndex := 6, attributes := #[] }, { accessFlags := 9, nameIndex := 128, descriptorIndex := 129, attributes := #[] }] 49 2 #[] #[{ accessFlags := 26, nameIndex := 34, descriptorIndex := 35, attributes := #[] }, { accessFlags := 26, nameIndex := 122, descriptorIndex := 123, attributes := #[] }])
  fields := #[{ name := "CPF", type := (.object "java/util/regex/Pattern"), accessFlags := 26, slot := 0, constantValue := 0 }, { name := "TWO_PLACES", type := .int, accessFlags := 26, slot := 1, constantValue := 0 }]
  methods := #[k13m0, k13m1]
  instanceTypes := #[]
  staticTypes := #[(.object "java/util/regex/Pattern"), .int]
  resolved := Array.replicate 165 none
  statics := none }

def pool14 : Array CpInfo := pool [(4, .class_ 6), (1, u "java/lang/Object"), (0, u "<init>"), (0, u "()V"), (5, .class_ 16), (1, u "java/lang/StringLatin1"), (33, .methodref 14 51), (0, .nameAndType 52 53), (0, u "getChar"), (0, u "([BI)C"), (3, u "([B)I"), (8, .fieldref 67 68), (0, .class_ 69), (0, .nameAndType 70 71), (0, u "java/lang/CharacterDataLatin1"), (0, u "instance"), (0, u "Ljava/lang/CharacterDataLatin1;"), (19, u "(I)Z"), (29, u "$assertionsDisabled"), (0, u "Z"), (88, .methodref 67 212), (0, .nameAndType 213 91), (0, u "isWhitespace"), (2, u "indexOfNonWhitespace"), (4, .class_ 223), (1, u "java/lang/StringLatin1$LinesSpliterator"), (57, u "equals"), (0, u "([B[B)Z"), (107, .class_ 391), (0, u "java/lang/StringLatin1$CharsSpliterator")] 3

def k14m0 : Method := { name := "<init>", desc := "()V", sig := { parameters := [], returnType := none }, accessFlags := 0, code := none }
def k14c1 : Code := { maxStack := 3, maxLocals := 3, code := jdk_43_method_13_code, exceptionTable := #[], attributes := #[] }
def k14m1 : Method := { name := "equals", desc := "([B[B)Z", sig := { parameters := [(.array .byte), (.array .byte)], returnType := some .boolean }, accessFlags := 9, code := some k14c1 }
def k14c2 : Code := { maxStack := 2, maxLocals := 4, code := jdk_43_method_37_code, exceptionTable := #[], attributes := #[] }
def k14m2 : Method := { name := "indexOfNonWhitespace", desc := "([B)I", sig := { parameters := [(.array .byte)], returnType := some .int }, accessFlags := 9, code := some k14c2 }
def k14c3 : Code := { maxStack := 2, maxLocals := 2, code := jdk_43_method_44_code, exceptionTable := #[], attributes := #[] }
def k14m3 : Method := { name := "getChar", desc := "([BI)C", sig := { parameters := [(.array .byte), .int], returnType := some .char }, accessFlags := 9, code := some k14c3 }
/-- java/lang/StringLatin1 -/
def k14 : Class := { plain "java/lang/StringLatin1" (some 0) with
  accessFlags := 48
  interfaces := #[]
  cf := some (fileOf pool14 14 #[.nestMembers #[390, 221]] #[{ accessFlags := 0, nameIndex := 7, descriptorIndex := 8, attributes := #[] }, { accessFlags := 9, nameIndex := 281, descriptorIndex := 282, attributes := #[] }, { accessFlags := 9, nameIndex := 216, descriptorIndex := 57, attributes := #[] }, { accessFlags := 9, nameIndex := 52, descriptorIndex := 53, attributes := #[] }] 48 4 #[] #[{ accessFlags := 4120, nameIndex := 121, descriptorIndex := 122, attributes := #[] }])
  fields := #[{ name := "$assertionsDisabled", type := .boolean, accessFlags := 4120, slot := 0, constantValue := 0 }]
  methods := #[k14m0, k14m1, k14m2, k14m3]
  instanceTypes := #[]
  staticTypes := #[.boolean]
  resolved := Array.replicate 395 none
  statics := none }

def pool15 : Array CpInfo := pool [(2, .class_ 4), (1, u "java/lang/Object"), (0, u "<init>"), (0, u "()V"), (1, .class_ 10), (1, u "java/lang/CharacterData")] 75

def k15m0 : Method := { name := "<init>", desc := "()V", sig := { parameters := [], returnType := none }, accessFlags := 0, code := none }
/-- java/lang/CharacterData -/
def k15 : Class := { plain "java/lang/CharacterData" (some 0) with
  accessFlags := 1056
  interfaces := #[]
  cf := some (fileOf pool15 8 #[] #[{ accessFlags := 0, nameIndex := 5, descriptorIndex := 6, attributes := #[] }] 1056 2 #[] #[])
  fields := #[]
  methods := #[k15m0]
  instanceTypes := #[]
  staticTypes := #[]
  resolved := Array.replicate 86 none
  statics := none }

def pool16 : Array CpInfo := pool [(1, .fieldref 2 3), (0, .class_ 4), (0, .nameAndType 5 6), (0, u "java/lang/CharacterDataLatin1"), (0, u "A"), (0, u "[I"), (2, u "B"), (0, u "[C"), (3, u "(I)I"), (0, .methodref 2 16), (0, .nameAndType 17 14), (0, u "getProperties"), (3, u "(I)Z"), (5, u "DIGITS"), (0, u "[B"), (8, u "sharpsMap"), (1, .class_ 41), (1, u "java/lang/CharacterData"), (0, u "<init>"), (0, u "()V"), (3, u "instance"), (0, u "Ljava/lang/CharacterDataLatin1;"), (78, u "isWhitespace")] 13

def k16c0 : Code := { maxStack := 2, maxLocals := 4, code := jdk_116_method_1_code, exceptionTable := #[], attributes := #[] }
def k16m0 : Method := { name := "getProperties", desc := "(I)I", sig := { parameters := [.int], returnType := some .int }, accessFlags := 0, code := some k16c0 }
def k16c1 : Code := { maxStack := 2, maxLocals := 3, code := jdk_116_method_26_code, exceptionTable := #[], attributes := #[] }
def k16m1 : Method := { name := "isWhitespace", desc := "(I)Z", sig := { parameters := [.int], returnType := some .boolean }, accessFlags := 0, code := some k16c1 }
def k16m2 : Method := { name := "<init>", desc := "()V", sig := { parameters := [], returnType := none }, accessFlags := 2, code := none }
/-- java/lang/CharacterDataLatin1 -/
def k16 : Class := { plain "java/lang/CharacterDataLatin1" (some 15) with
  accessFlags := 32
  interfaces := #[]
  cf := some (fileOf pool16 2 #[] #[{ accessFlags := 0, nameIndex := 17, descriptorIndex := 14, attributes := #[] }, { accessFlags := 0, nameIndex := 127, descriptorIndex := 21, attributes := #[] }, { accessFlags := 2, nameIndex := 42, descriptorIndex := 43, attributes := #[] }] 32 39 #[] #[{ accessFlags := 26, nameIndex := 27, descriptorIndex := 28, attributes := #[] }, { accessFlags := 8, nameIndex := 37, descriptorIndex := 10, attributes := #[] }, { accessFlags := 24, nameIndex := 47, descriptorIndex := 48, attributes := #[] }, { accessFlags := 24, nameIndex := 5, descriptorIndex := 6, attributes := #[] }, { accessFlags := 24, nameIndex := 9, descriptorIndex := 10, attributes := #[] }])
  fields := #[{ name := "DIGITS", type := (.array .byte), accessFlags := 26, slot := 0, constantValue := 0 }, { name := "sharpsMap", type := (.array .char), accessFlags := 8, slot := 1, constantValue := 0 }, { name := "instance", type := (.object "java/lang/CharacterDataLatin1"), accessFlags := 24, slot := 2, constantValue := 0 }, { name := "A", type := (.array .int), accessFlags := 24, slot := 3, constantValue := 0 }, { name := "B", type := (.array .char), accessFlags := 24, slot := 4, constantValue := 0 }]
  methods := #[k16m0, k16m1, k16m2]
  instanceTypes := #[]
  staticTypes := #[(.array .byte), (.array .char), (.object "java/lang/CharacterDataLatin1"), (.array .int), (.array .char)]
  resolved := Array.replicate 141 none
  statics := some 2 }

def pool17 : Array CpInfo := pool [(2, .class_ 4), (1, u "java/lang/Object"), (0, u "<init>"), (0, u "()V"), (17, .class_ 26), (1, u "jdk/internal/util/Preconditions"), (28, .class_ 56), (0, u "jdk/internal/util/Preconditions$4"), (57, .class_ 115), (0, u "jdk/internal/util/Preconditions$1"), (7, u "SIOOBE_FORMATTER"), (0, u "Ljava/util/function/BiFunction;"), (0, .class_ 126), (0, u "jdk/internal/util/Preconditions$2"), (3, u "AIOOBE_FORMATTER"), (0, .class_ 132), (0, u "jdk/internal/util/Preconditions$3"), (3, u "IOOBE_FORMATTER")] 57

def k17m0 : Method := { name := "<init>", desc := "()V", sig := { parameters := [], returnType := none }, accessFlags := 1, code := none }
/-- jdk/internal/util/Preconditions -/
def k17 : Class := { plain "jdk/internal/util/Preconditions" (some 0) with
  accessFlags := 33
  interfaces := #[]
  cf := some (fileOf pool17 24 #[.nestMembers #[55, 131, 125, 114]] #[{ accessFlags := 1, nameIndex := 5, descriptorIndex := 6, attributes := #[] }] 33 2 #[] #[{ accessFlags := 25, nameIndex := 123, descriptorIndex := 124, attributes := #[] }, { accessFlags := 25, nameIndex := 130, descriptorIndex := 124, attributes := #[] }, { accessFlags := 25, nameIndex := 136, descriptorIndex := 124, attributes := #[] }])
  fields := #[{ name := "SIOOBE_FORMATTER", type := (.object "java/util/function/BiFunction"), accessFlags := 25, slot := 0, constantValue := 0 }, { name := "AIOOBE_FORMATTER", type := (.object "java/util/function/BiFunction"), accessFlags := 25, slot := 1, constantValue := 0 }, { name := "IOOBE_FORMATTER", type := (.object "java/util/function/BiFunction"), accessFlags := 25, slot := 2, constantValue := 0 }]
  methods := #[k17m0]
  instanceTypes := #[]
  staticTypes := #[(.object "java/util/function/BiFunction"), (.object "java/util/function/BiFunction"), (.object "java/util/function/BiFunction")]
  resolved := Array.replicate 194 none
  statics := some 3 }

def pool18 : Array CpInfo := pool [(9, u "<init>"), (6, .class_ 18), (1, u "java/lang/Object"), (0, u "()V"), (1, .class_ 23), (1, u "jdk/internal/util/ArraysSupport"), (0, u "LOG2_ARRAY_LONG_INDEX_SCALE"), (0, u "I"), (2, u "U"), (0, u "Ljdk/internal/misc/Unsafe;"), (8, u "BIG_ENDIAN"), (0, u "Z"), (8, u "LOG2_BYTE_BIT_SIZE"), (4, u "LOG2_ARRAY_INT_INDEX_SCALE"), (54, u "JLA"), (0, u "Ljdk/internal/access/JavaLangAccess;"), (11, u "LOG2_ARRAY_BOOLEAN_INDEX_SCALE"), (9, u "LOG2_ARRAY_BYTE_INDEX_SCALE"), (5, u "LOG2_ARRAY_CHAR_INDEX_SCALE"), (5, u "LOG2_ARRAY_SHORT_INDEX_SCALE"), (18, u "LOG2_ARRAY_FLOAT_INDEX_SCALE"), (24, u "LOG2_ARRAY_DOUBLE_INDEX_SCALE"), (89, u "T_BOOLEAN"), (2, u "T_CHAR"), (1, u "T_FLOAT"), (1, u "T_DOUBLE"), (1, u "T_BYTE"), (1, u "T_SHORT"), (1, u "T_INT"), (1, u "T_LONG"), (1, u "SOFT_MAX_ARRAY_LENGTH")] 83

def k18m0 : Method := { name := "<init>", desc := "()V", sig := { parameters := [], returnType := none }, accessFlags := 2, code := none }
/-- jdk/internal/util/ArraysSupport -/
def k18 : Class := { plain "jdk/internal/util/ArraysSupport" (some 0) with
  accessFlags := 33
  interfaces := #[]
  cf := some (fileOf pool18 21 #[] #[{ accessFlags := 2, nameIndex := 9, descriptorIndex := 19, attributes := #[] }] 33 16 #[] #[{ accessFlags := 24, nameIndex := 28, descriptorIndex := 29, attributes := #[] }, { accessFlags := 26, nameIndex := 38, descriptorIndex := 39, attributes := #[] }, { accessFlags := 25, nameIndex := 121, descriptorIndex := 25, attributes := #[] }, { accessFlags := 25, nameIndex := 131, descriptorIndex := 25, attributes := #[] }, { accessFlags := 25, nameIndex := 137, descriptorIndex := 25, attributes := #[] }, { accessFlags := 25, nameIndex := 143, descriptorIndex := 25, attributes := #[] }, { accessFlags := 25, nameIndex := 53, descriptorIndex := 25, attributes := #[] }, { accessFlags := 25, nameIndex := 24, descriptorIndex := 25, attributes := #[] }, { accessFlags := 25, nameIndex := 162, descriptorIndex := 25, attributes := #[] }, { accessFlags := 25, nameIndex := 187, descriptorIndex := 25, attributes := #[] }, { accessFlags := 26, nameIndex := 48, descriptorIndex := 25, attributes := #[] }, { accessFlags := 25, nameIndex := 277, descriptorIndex := 25, attributes := #[] }, { accessFlags := 25, nameIndex := 280, descriptorIndex := 25, attributes := #[] }, { accessFlags := 25, nameIndex := 282, descriptorIndex := 25, attributes := #[] }, { accessFlags := 25, nameIndex := 284, descriptorIndex := 25, attributes := #[] }, { accessFlags := 25, nameIndex := 286, descriptorIndex := 25, attributes := #[] }, { accessFlags := 25, nameIndex := 288, descriptorIndex := 25, attributes := #[] }, { accessFlags := 25, nameIndex := 290, descriptorIndex := 25, attributes := #[] }, { accessFlags := 25, nameIndex := 292, descriptorIndex := 25, attributes := #[] }, { accessFlags := 26, nameIndex := 108, descriptorIndex := 109, attributes := #[] }, { accessFlags := 25, nameIndex := 294, descriptorIndex := 25, attributes := #[] }])
  fields := #[{ name := "U", type := (.object "jdk/internal/misc/Unsafe"), accessFlags := 24, slot := 0, constantValue := 0 }, { name := "BIG_ENDIAN", type := .boolean, accessFlags := 26, slot := 1, constantValue := 0 }, { name := "LOG2_ARRAY_BOOLEAN_INDEX_SCALE", type := .int, accessFlags := 25, slot := 2, constantValue := 0 }, { name := "LOG2_ARRAY_BYTE_INDEX_SCALE", type := .int, accessFlags := 25, slot := 3, constantValue := 0 }, { name := "LOG2_ARRAY_CHAR_INDEX_SCALE", type := .int, accessFlags := 25, slot := 4, constantValue := 0 }, { name := "LOG2_ARRAY_SHORT_INDEX_SCALE", type := .int, accessFlags := 25, slot := 5, constantValue := 0 }, { name := "LOG2_ARRAY_INT_INDEX_SCALE", type := .int, accessFlags := 25, slot := 6, constantValue := 0 }, { name := "LOG2_ARRAY_LONG_INDEX_SCALE", type := .int, accessFlags := 25, slot := 7, constantValue := 0 }, { name := "LOG2_ARRAY_FLOAT_INDEX_SCALE", type := .int, accessFlags := 25, slot := 8, constantValue := 0 }, { name := "LOG2_ARRAY_DOUBLE_INDEX_SCALE", type := .int, accessFlags := 25, slot := 9, constantValue := 0 }, { name := "LOG2_BYTE_BIT_SIZE", type := .int, accessFlags := 26, slot := 10, constantValue := 0 }, { name := "T_BOOLEAN", type := .int, accessFlags := 25, slot := 11, constantValue := 0 }, { name := "T_CHAR", type := .int, accessFlags := 25, slot := 12, constantValue := 0 }, { name := "T_FLOAT", type := .int, accessFlags := 25, slot := 13, constantValue := 0 }, { name := "T_DOUBLE", type := .int, accessFlags := 25, slot := 14, constantValue := 0 }, { name := "T_BYTE", type := .int, accessFlags := 25, slot := 15, constantValue := 0 }, { name := "T_SHORT", type := .int, accessFlags := 25, slot := 16, constantValue := 0 }, { name := "T_INT", type := .int, accessFlags := 25, slot := 17, constantValue := 0 }, { name := "T_LONG", type := .int, accessFlags := 25, slot := 18, constantValue := 0 }, { name := "JLA", type := (.object "jdk/internal/access/JavaLangAccess"), accessFlags := 26, slot := 19, constantValue := 0 }, { name := "SOFT_MAX_ARRAY_LENGTH", type := .int, accessFlags := 25, slot := 20, constantValue := 0 }]
  methods := #[k18m0]
  instanceTypes := #[]
  staticTypes := #[(.object "jdk/internal/misc/Unsafe"), .boolean, .int, .int, .int, .int, .int, .int, .int, .int, .int, .int, .int, .int, .int, .int, .int, .int, .int, (.object "jdk/internal/access/JavaLangAccess"), .int]
  resolved := Array.replicate 378 none
  statics := none }

def pool19 : Array CpInfo := pool [(1, u "java/lang/Cloneable"), (0, .class_ 1), (0, u "java/lang/Object"), (0, .class_ 3)] 3

/-- java/lang/Cloneable -/
def k19 : Class := { plain "java/lang/Cloneable" (some 0) with
  accessFlags := 1537
  interfaces := #[]
  cf := some (fileOf pool19 2 #[] #[] 1537 4 #[] #[])
  fields := #[]
  methods := #[]
  instanceTypes := #[]
  staticTypes := #[]
  resolved := Array.replicate 8 none
  statics := none }

/-- the primitive byte -/
def k20 : Class := { plain "byte" none with kind := .primitive 'B', accessFlags := 0x411 }
/-- [B -/
def k21 : Class := { plain "[B" (some 0) with kind := .array 20 .byte, interfaces := #[19, 4], accessFlags := 1041 }

/-- the primitive char -/
def k22 : Class := { plain "char" none with kind := .primitive 'C', accessFlags := 0x411 }
/-- [C -/
def k23 : Class := { plain "[C" (some 0) with kind := .array 22 .char, interfaces := #[19, 4], accessFlags := 1041 }

/-- the primitive int -/
def k24 : Class := { plain "int" none with kind := .primitive 'I', accessFlags := 0x411 }
/-- [I -/
def k25 : Class := { plain "[I" (some 0) with kind := .array 24 .int, interfaces := #[19, 4], accessFlags := 1041 }

def heap : Heap := #[{ cls := 6, slots := #[.ref 4, .ref 7, .ref 6, .ref 5, .null], vm := .statics 6 },
  { cls := 9, slots := #[.long 0, .int 1, .null, .int 0, .null, .int 0, .int 0], vm := .statics 9 },
  { cls := 16, slots := #[.null, .null, .ref 9, .ref 10, .null], vm := .statics 16 },
  { cls := 17, slots := #[.null, .null, .null], vm := .statics 17 },
  { cls := 6, slots := #[.null, .int 0, .int 0, .int 0], vm := .none },
  { cls := 6, slots := #[.null, .int 3, .int 0, .int 0], vm := .none },
  { cls := 6, slots := #[.null, .int 2, .int 0, .int 0], vm := .none },
  { cls := 6, slots := #[.null, .int 1, .int 0, .int 0], vm := .none },
  { cls := 18, slots := #[], vm := .none },
  { cls := 16, slots := #[], vm := .none },
  { cls := 25, slots := #[.int 1207963663, .int 1207963663, .int 1207963663, .int 1207963663, .int 1207963663, .int 1207963663, .int 1207963663, .int 1207963663, .int 1207963663, .int 1476411407, .int 1342193679, .int 1476411407, .int 1610629135, .int 1342193679, .int 1207963663, .int 1207963663, .int 1207963663, .int 1207963663, .int 1207963663, .int 1207963663, .int 1207963663, .int 1207963663, .int 1207963663, .int 1207963663, .int 1207963663, .int 1207963663, .int 1207963663, .int 1207963663, .int 1342193679, .int 1342193679, .int 1342193679, .int 1476411407, .int 1610629132, .int 1744830488, .int 1744830488, .int 671088664, .int 671113242, .int 671088664, .int 1744830488, .int 1744830488, .int (-402653163), .int (-402653162), .int 1744830488, .int 536870937, .int 939524120, .int 536870932, .int 939524120, .int 939524120, .int 402667017, .int 402667017, .int 402667017, .int 402667017, .int 402667017, .int 402667017, .int 402667017, .int 402667017, .int 402667017, .int 402667017, .int 939524120, .int 1744830488, .int (-402653159), .int 1744830489, .int (-402653159), .int 1744830488, .int 1744830488, .int 8552417, .int 8552417, .int 8552417, .int 8552417, .int 8552417, .int 8552417, .int 8552417, .int 8552417, .int 8552417, .int 8552417, .int 8552417, .int 8552417, .int 8552417, .int 8552417, .int 8552417, .int 8552417, .int 8552417, .int 8552417, .int 8552417, .int 8552417, .int 8552417, .int 8552417, .int 8552417, .int 8552417, .int 8552417, .int 8552417, .int (-402653163), .int 1744830488, .int (-402653162), .int 1744830491, .int 1744850967, .int 1744830491, .int 8486882, .int 8486882, .int 8486882, .int 8486882, .int 8486882, .int 8486882, .int 8486882, .int 8486882, .int 8486882, .int 8486882, .int 8486882, .int 8486882, .int 8486882, .int 8486882, .int 8486882, .int 8486882, .int 8486882, .int 8486882, .int 8486882, .int 8486882, .int 8486882, .int 8486882, .int 8486882, .int 8486882, .int 8486882, .int 8486882, .int (-402653163), .int 1744830489, .int (-402653162), .int 1744830489, .int 1207963663, .int 1207963663, .int 1207963663, .int 1207963663, .int 1207963663, .int 1207963663, .int 1342181391, .int 1207963663, .int 1207963663, .int 1207963663, .int 1207963663, .int 1207963663, .int 1207963663, .int 1207963663, .int 1207963663, .int 1207963663, .int 1207963663, .int 1207963663, .int 1207963663, .int 1207963663, .int 1207963663, .int 1207963663, .int 1207963663, .int 1207963663, .int 1207963663, .int 1207963663, .int 1207963663, .int 1207963663, .int 1207963663, .int 1207963663, .int 1207963663, .int 1207963663, .int 1207963663, .int 939524108, .int 1744830488, .int 671113242, .int 671113242, .int 671113242, .int 671113242, .int 1744830492, .int 1744830488, .int 1744830491, .int 1744830492, .int 28677, .int (-402653155), .int 1744830489, .int 1207963664, .int 1744830492, .int 1744830491, .int 671088668, .int 671088665, .int 402654731, .int 402654731, .int 1744830491, .int 134049794, .int 1744830488, .int 1744830488, .int 1744830491, .int 402654475, .int 28677, .int (-402653154), .int 1744832523, .int 1744832523, .int 1744832523, .int 1744830488, .int 8548353, .int 8548353, .int 8548353, .int 8548353, .int 8548353, .int 8548353, .int 8548353, .int 8548353, .int 8548353, .int 8548353, .int 8548353, .int 8548353, .int 8548353, .int 8548353, .int 8548353, .int 8548353, .int 8548353, .int 8548353, .int 8548353, .int 8548353, .int 8548353, .int 8548353, .int 8548353, .int 1744830489, .int 8548353, .int 8548353, .int 8548353, .int 8548353, .int 8548353, .int 8548353, .int 8548353, .int 134049794, .int 8482818, .int 8482818, .int 8482818, .int 8482818, .int 8482818, .int 8482818, .int 8482818, .int 8482818, .int 8482818, .int 8482818, .int 8482818, .int 8482818, .int 8482818, .int 8482818, .int 8482818, .int 8482818, .int 8482818, .int 8482818, .int 8482818, .int 8482818, .int 8482818, .int 8482818, .int 8482818, .int 1744830489, .int 8482818, .int 8482818, .int 8482818, .int 8482818, .int 8482818, .int 8482818, .int 8482818, .int 102592514], vm := .none }]
def classes : Array Class := #[k0, k1, k2, k3, k4, k5, k6, k7, k8, k9, k10, k11, k12, k13, k14, k15, k16, k17, k18, k19, k20, k21, k22, k23, k24, k25]
def interned : List (Array UInt16 × Addr) := []
def slotsUsed : Nat := 292
def theMethod : MethodId := ⟨1, 6⟩
def args0 : Array Value := #[.int 1, .int 2, .int 65, .int 66, .int 3]
def aboutOver (below : List Frame) : State where
  vm := { classes := classes, interned := interned.toArray }
  heap := heap
  slotsUsed := slotsUsed
  threads := #[{ frames := .invoking theMethod args0 :: below }]
def below0 : List Frame := [.native { method := ⟨0, 0⟩, args := #[] }]
def about1 : State := aboutOver below0
def p0 : Program := .bare "" "" ""
def e0 : Env := launch0.env 0 0 0
theorem w_frames : about1.frames = Frame.invoking theMethod args0 :: below0 := rfl
set_option maxRecDepth 65536 in
theorem w_args : argsFit about1.vm theMethod args0 = true := by decide +kernel
set_option maxRecDepth 65536 in
theorem w_heap : heapFits about1 = true := by decide +kernel
set_option maxRecDepth 65536 in
theorem w_runnable : about1.curStatus? = some .runnable := by decide +kernel
set_option maxRecDepth 65536 in
theorem w_alone : about1.alone = true := by decide +kernel
set_option maxRecDepth 65536 in
theorem w_named : about1.methodNamed? x = some theMethod := by decide +kernel
set_option maxRecDepth 65536 in
theorem w_hears : about1.hears theMethod below0 = true := by decide +kernel
set_option maxRecDepth 65536 in
theorem w_ripe : about1.ripe theMethod args0 below0 = true := by decide +kernel
theorem w_running : about1.status = .running := rfl
set_option maxRecDepth 65536 in
theorem w_room : about1.hasRoom e0.platform room_1 = true :=
  launch0.hasRoom_least _ room_1 (by decide +kernel) (by decide +kernel) (by decide +kernel) (by decide +kernel) (by decide +kernel) (by decide +kernel)
theorem allAtoms_all (ts : List Jvm.Cond) (a : Array Jvm.Value) (st : Jvm.State) : (allAtoms ts).before a st = ts.all (fun c => c.before a st) := by
  induction ts with
  | nil => rfl
  | cons c t ih =>
    show (Jvm.Cond.and c (allAtoms t)).before a st = _
    rw [Jvm.Cond.before_and, ih, List.all_cons]
def words1 : List Jvm.Cond := Jvm.Cond.code x code maxLocals ret :: tables_1
/-- a 'code' word, met by the world's own term for the bytes: nothing is compared byte by byte -/
theorem code_word {y : MethodName} {bytes : ByteArray} {mx : Nat} {rt : Option FieldType} {a : Array Value} {s : State} {m : MethodId} {meth : Method} {c : Code} (h1 : s.methodNamed? y = some m) (h2 : s.vm.method? m = some meth) (h3 : meth.code = some c) (h4 : c.code = bytes)
    (h5 : (c.maxLocals == mx && c.exceptionTable.isEmpty && decide (c.maxStack ≤ mostOperands) && decide (meth.sig.returnType = rt) && !meth.locks && decide (parseMethodDescriptor y.desc = some meth.sig)) = true) : (Jvm.Cond.code y bytes mx rt).before a s = true := by
  simp only [Bool.and_eq_true, beq_iff_eq, Bool.not_eq_true', decide_eq_true_eq] at h5
  obtain ⟨⟨⟨⟨⟨g1, g2⟩, g3⟩, g4⟩, g5⟩, g6⟩ := h5
  simp [Cond.before, Cond.holds, Cond.value, h1, h2, h3, h4, g1, g2, g3, g4, g5, g6]
def isCode : Jvm.Cond → Bool
  | .code _ _ _ _ => true
  | _ => false
theorem all_split {L : List Jvm.Cond} {P : Jvm.Cond → Bool} (h1 : L.all (fun c => isCode c || P c) = true) (h2 : ∀ c ∈ L.filter isCode, P c = true) : L.all P = true := by
  refine List.all_eq_true.mpr fun c hc => ?_
  have h := List.all_eq_true.mp h1 c hc
  rcases Bool.eq_false_or_eq_true (isCode c) with hi | hi
  · exact h2 c (List.mem_filter.mpr ⟨hc, hi⟩)
  · simpa [hi] using h
set_option maxRecDepth 65536 in
theorem w_c0 : (Jvm.Cond.code x code maxLocals ret).before args0 about1 = true := code_word (m := ⟨1, 6⟩) (meth := k1m6) (c := k1c6) (by decide +kernel) rfl rfl rfl (by decide +kernel)
set_option maxRecDepth 65536 in
theorem w_c1 : (Jvm.Cond.code ({ cls := "com/example/faturista/faturista/engine/missedcharges/BilledLineEqualsPinLaw", name := "blank", desc := "(I)Z" } : Jvm.MethodName) method_5_code (3 : Nat) (Option.some Jvm.ClassFile.FieldType.boolean)).before args0 about1 = true := code_word (m := ⟨1, 4⟩) (meth := k1m4) (c := k1c4) (by decide +kernel) rfl rfl rfl (by decide +kernel)
set_option maxRecDepth 65536 in
theorem w_c2 : (Jvm.Cond.code ({ cls := "com/example/faturista/faturista/engine/missedcharges/BilledLineEqualsPinLaw", name := "len", desc := "(I)I" } : Jvm.MethodName) method_4_code (1 : Nat) (Option.some Jvm.ClassFile.FieldType.int)).before args0 about1 = true := code_word (m := ⟨1, 3⟩) (meth := k1m3) (c := k1c3) (by decide +kernel) rfl rfl rfl (by decide +kernel)
set_option maxRecDepth 65536 in
theorem w_c3 : (Jvm.Cond.code ({ cls := "com/example/faturista/faturista/engine/missedcharges/BilledLineEqualsPinLaw", name := "ws", desc := "(I)Z" } : Jvm.MethodName) method_3_code (1 : Nat) (Option.some Jvm.ClassFile.FieldType.boolean)).before args0 about1 = true := code_word (m := ⟨1, 2⟩) (meth := k1m2) (c := k1c2) (by decide +kernel) rfl rfl rfl (by decide +kernel)
set_option maxRecDepth 65536 in
theorem w_c4 : (Jvm.Cond.code ({ cls := "com/example/faturista/faturista/engine/missedcharges/BilledLineEqualsPinLaw", name := "cat", desc := "(I)Lcom/example/faturista/faturista/engine/missedcharges/ChargeCategory;" } : Jvm.MethodName) method_2_code (2 : Nat) (Option.some (Jvm.ClassFile.FieldType.object "com/example/faturista/faturista/engine/missedcharges/ChargeCategory"))).before args0 about1 = true := code_word (m := ⟨1, 1⟩) (meth := k1m1) (c := k1c1) (by decide +kernel) rfl rfl rfl (by decide +kernel)
set_option maxRecDepth 65536 in
theorem w_c5 : (Jvm.Cond.code ({ cls := "com/example/faturista/faturista/engine/missedcharges/BilledLineEqualsPinLaw", name := "key", desc := "(I)Ljava/lang/String;" } : Jvm.MethodName) method_6_code (3 : Nat) (Option.some (Jvm.ClassFile.FieldType.object "java/lang/String"))).before args0 about1 = true := code_word (m := ⟨1, 5⟩) (meth := k1m5) (c := k1c5) (by decide +kernel) rfl rfl rfl (by decide +kernel)
set_option maxRecDepth 65536 in
theorem w_c6 : (Jvm.Cond.code ({ cls := "java/lang/String", name := "<init>", desc := "([C)V" } : Jvm.MethodName) jdk_42_method_3_code (2 : Nat) (Option.none : Option Jvm.ClassFile.FieldType)).before args0 about1 = true := code_word (m := ⟨9, 1⟩) (meth := k9m1) (c := k9c1) (by decide +kernel) rfl rfl rfl (by decide +kernel)
set_option maxRecDepth 65536 in
theorem w_c7 : (Jvm.Cond.code ({ cls := "java/lang/String", name := "<init>", desc := "([CIILjava/lang/Void;)V" } : Jvm.MethodName) jdk_42_method_149_code (6 : Nat) (Option.none : Option Jvm.ClassFile.FieldType)).before args0 about1 = true := code_word (m := ⟨9, 6⟩) (meth := k9m6) (c := k9c6) (by decide +kernel) rfl rfl rfl (by decide +kernel)
set_option maxRecDepth 65536 in
theorem w_c8 : (Jvm.Cond.code ({ cls := "java/lang/Object", name := "<init>", desc := "()V" } : Jvm.MethodName) object_method_1_code (1 : Nat) (Option.none : Option Jvm.ClassFile.FieldType)).before args0 about1 = true := code_word (m := ⟨0, 0⟩) (meth := k0m0) (c := k0c0) (by decide +kernel) rfl rfl rfl (by decide +kernel)
set_option maxRecDepth 65536 in
theorem w_c9 : (Jvm.Cond.code ({ cls := "java/lang/StringUTF16", name := "compress", desc := "([CII)[B" } : Jvm.MethodName) jdk_52_method_16_code (6 : Nat) (Option.some (Jvm.ClassFile.FieldType.array Jvm.ClassFile.FieldType.byte))).before args0 about1 = true := code_word (m := ⟨10, 2⟩) (meth := k10m2) (c := k10c2) (by decide +kernel) rfl rfl rfl (by decide +kernel)
set_option maxRecDepth 65536 in
theorem w_c10 : (Jvm.Cond.code ({ cls := "java/lang/StringUTF16", name := "compress", desc := "([CI[BII)I" } : Jvm.MethodName) jdk_52_method_21_code (7 : Nat) (Option.some Jvm.ClassFile.FieldType.int)).before args0 about1 = true := code_word (m := ⟨10, 3⟩) (meth := k10m3) (c := k10c3) (by decide +kernel) rfl rfl rfl (by decide +kernel)
set_option maxRecDepth 65536 in
theorem w_c11 : (Jvm.Cond.code ({ cls := "java/lang/StringUTF16", name := "coderFromArrayLen", desc := "([BI)B" } : Jvm.MethodName) jdk_52_method_15_code (2 : Nat) (Option.some Jvm.ClassFile.FieldType.byte)).before args0 about1 = true := code_word (m := ⟨10, 1⟩) (meth := k10m1) (c := k10c1) (by decide +kernel) rfl rfl rfl (by decide +kernel)
set_option maxRecDepth 65536 in
theorem w_c12 : (Jvm.Cond.code ({ cls := "com/example/faturista/faturista/engine/missedcharges/BilledLine", name := "<init>", desc := "(Lcom/example/faturista/faturista/engine/missedcharges/ChargeCategory;Ljava/lang/String;)V" } : Jvm.MethodName) prog_79_method_1_code (3 : Nat) (Option.none : Option Jvm.ClassFile.FieldType)).before args0 about1 = true := code_word (m := ⟨11, 0⟩) (meth := k11m0) (c := k11c0) (by decide +kernel) rfl rfl rfl (by decide +kernel)
set_option maxRecDepth 65536 in
theorem w_c13 : (Jvm.Cond.code ({ cls := "java/util/Objects", name := "requireNonNull", desc := "(Ljava/lang/Object;Ljava/lang/String;)Ljava/lang/Object;" } : Jvm.MethodName) jdk_31_method_11_code (2 : Nat) (Option.some (Jvm.ClassFile.FieldType.object "java/lang/Object"))).before args0 about1 = true := code_word (m := ⟨12, 1⟩) (meth := k12m1) (c := k12c1) (by decide +kernel) rfl rfl rfl (by decide +kernel)
set_option maxRecDepth 65536 in
theorem w_c14 : (Jvm.Cond.code ({ cls := "com/example/faturista/faturista/engine/FieldChecks", name := "requireNotBlank", desc := "(Ljava/lang/String;Ljava/lang/String;)Ljava/lang/String;" } : Jvm.MethodName) prog_16_method_2_code (2 : Nat) (Option.some (Jvm.ClassFile.FieldType.object "java/lang/String"))).before args0 about1 = true := code_word (m := ⟨13, 1⟩) (meth := k13m1) (c := k13c1) (by decide +kernel) rfl rfl rfl (by decide +kernel)
set_option maxRecDepth 65536 in
theorem w_c15 : (Jvm.Cond.code ({ cls := "java/lang/String", name := "isBlank", desc := "()Z" } : Jvm.MethodName) jdk_42_method_117_code (1 : Nat) (Option.some Jvm.ClassFile.FieldType.boolean)).before args0 about1 = true := code_word (m := ⟨9, 4⟩) (meth := k9m4) (c := k9c4) (by decide +kernel) rfl rfl rfl (by decide +kernel)
set_option maxRecDepth 65536 in
theorem w_c16 : (Jvm.Cond.code ({ cls := "java/lang/String", name := "indexOfNonWhitespace", desc := "()I" } : Jvm.MethodName) jdk_42_method_120_code (1 : Nat) (Option.some Jvm.ClassFile.FieldType.int)).before args0 about1 = true := code_word (m := ⟨9, 5⟩) (meth := k9m5) (c := k9c5) (by decide +kernel) rfl rfl rfl (by decide +kernel)
set_option maxRecDepth 65536 in
theorem w_c17 : (Jvm.Cond.code ({ cls := "java/lang/String", name := "isLatin1", desc := "()Z" } : Jvm.MethodName) jdk_42_method_154_code (1 : Nat) (Option.some Jvm.ClassFile.FieldType.boolean)).before args0 about1 = true := code_word (m := ⟨9, 8⟩) (meth := k9m8) (c := k9c8) (by decide +kernel) rfl rfl rfl (by decide +kernel)
set_option maxRecDepth 65536 in
theorem w_c18 : (Jvm.Cond.code ({ cls := "java/lang/StringLatin1", name := "indexOfNonWhitespace", desc := "([B)I" } : Jvm.MethodName) jdk_43_method_37_code (4 : Nat) (Option.some Jvm.ClassFile.FieldType.int)).before args0 about1 = true := code_word (m := ⟨14, 2⟩) (meth := k14m2) (c := k14c2) (by decide +kernel) rfl rfl rfl (by decide +kernel)
set_option maxRecDepth 65536 in
theorem w_c19 : (Jvm.Cond.code ({ cls := "java/lang/StringLatin1", name := "getChar", desc := "([BI)C" } : Jvm.MethodName) jdk_43_method_44_code (2 : Nat) (Option.some Jvm.ClassFile.FieldType.char)).before args0 about1 = true := code_word (m := ⟨14, 3⟩) (meth := k14m3) (c := k14c3) (by decide +kernel) rfl rfl rfl (by decide +kernel)
set_option maxRecDepth 65536 in
theorem w_c20 : (Jvm.Cond.code ({ cls := "java/lang/CharacterDataLatin1", name := "isWhitespace", desc := "(I)Z" } : Jvm.MethodName) jdk_116_method_26_code (3 : Nat) (Option.some Jvm.ClassFile.FieldType.boolean)).before args0 about1 = true := code_word (m := ⟨16, 1⟩) (meth := k16m1) (c := k16c1) (by decide +kernel) rfl rfl rfl (by decide +kernel)
set_option maxRecDepth 65536 in
theorem w_c21 : (Jvm.Cond.code ({ cls := "java/lang/CharacterDataLatin1", name := "getProperties", desc := "(I)I" } : Jvm.MethodName) jdk_116_method_1_code (4 : Nat) (Option.some Jvm.ClassFile.FieldType.int)).before args0 about1 = true := code_word (m := ⟨16, 0⟩) (meth := k16m0) (c := k16c0) (by decide +kernel) rfl rfl rfl (by decide +kernel)
set_option maxRecDepth 65536 in
theorem w_c22 : (Jvm.Cond.code ({ cls := "java/lang/String", name := "length", desc := "()I" } : Jvm.MethodName) jdk_42_method_54_code (1 : Nat) (Option.some Jvm.ClassFile.FieldType.int)).before args0 about1 = true := code_word (m := ⟨9, 2⟩) (meth := k9m2) (c := k9c2) (by decide +kernel) rfl rfl rfl (by decide +kernel)
set_option maxRecDepth 65536 in
theorem w_c23 : (Jvm.Cond.code ({ cls := "java/lang/String", name := "coder", desc := "()B" } : Jvm.MethodName) jdk_42_method_152_code (1 : Nat) (Option.some Jvm.ClassFile.FieldType.byte)).before args0 about1 = true := code_word (m := ⟨9, 7⟩) (meth := k9m7) (c := k9c7) (by decide +kernel) rfl rfl rfl (by decide +kernel)
set_option maxRecDepth 65536 in
theorem w_c24 : (Jvm.Cond.code ({ cls := "com/example/faturista/faturista/engine/missedcharges/BilledLine", name := "equals", desc := "(Ljava/lang/Object;)Z" } : Jvm.MethodName) prog_79_method_4_code (3 : Nat) (Option.some Jvm.ClassFile.FieldType.boolean)).before args0 about1 = true := code_word (m := ⟨11, 1⟩) (meth := k11m1) (c := k11c1) (by decide +kernel) rfl rfl rfl (by decide +kernel)
set_option maxRecDepth 65536 in
theorem w_c25 : (Jvm.Cond.code ({ cls := "java/lang/String", name := "equals", desc := "(Ljava/lang/Object;)Z" } : Jvm.MethodName) jdk_42_method_66_code (3 : Nat) (Option.some Jvm.ClassFile.FieldType.boolean)).before args0 about1 = true := code_word (m := ⟨9, 3⟩) (meth := k9m3) (c := k9c3) (by decide +kernel) rfl rfl rfl (by decide +kernel)
set_option maxRecDepth 65536 in
theorem w_c26 : (Jvm.Cond.code ({ cls := "java/lang/StringLatin1", name := "equals", desc := "([B[B)Z" } : Jvm.MethodName) jdk_43_method_13_code (3 : Nat) (Option.some Jvm.ClassFile.FieldType.boolean)).before args0 about1 = true := code_word (m := ⟨14, 1⟩) (meth := k14m1) (c := k14c1) (by decide +kernel) rfl rfl rfl (by decide +kernel)
def codes1 : List Jvm.Cond := [Jvm.Cond.code x code maxLocals ret, Jvm.Cond.code ({ cls := "com/example/faturista/faturista/engine/missedcharges/BilledLineEqualsPinLaw", name := "blank", desc := "(I)Z" } : Jvm.MethodName) method_5_code (3 : Nat) (Option.some Jvm.ClassFile.FieldType.boolean), Jvm.Cond.code ({ cls := "com/example/faturista/faturista/engine/missedcharges/BilledLineEqualsPinLaw", name := "len", desc := "(I)I" } : Jvm.MethodName) method_4_code (1 : Nat) (Option.some Jvm.ClassFile.FieldType.int), Jvm.Cond.code ({ cls := "com/example/faturista/faturista/engine/missedcharges/BilledLineEqualsPinLaw", name := "ws", desc := "(I)Z" } : Jvm.MethodName) method_3_code (1 : Nat) (Option.some Jvm.ClassFile.FieldType.boolean), Jvm.Cond.code ({ cls := "com/example/faturista/faturista/engine/missedcharges/BilledLineEqualsPinLaw", name := "cat", desc := "(I)Lcom/example/faturista/faturista/engine/missedcharges/ChargeCategory;" } : Jvm.MethodName) method_2_code (2 : Nat) (Option.some (Jvm.ClassFile.FieldType.object "com/example/faturista/faturista/engine/missedcharges/ChargeCategory")), Jvm.Cond.code ({ cls := "com/example/faturista/faturista/engine/missedcharges/BilledLineEqualsPinLaw", name := "key", desc := "(I)Ljava/lang/String;" } : Jvm.MethodName) method_6_code (3 : Nat) (Option.some (Jvm.ClassFile.FieldType.object "java/lang/String")), Jvm.Cond.code ({ cls := "java/lang/String", name := "<init>", desc := "([C)V" } : Jvm.MethodName) jdk_42_method_3_code (2 : Nat) (Option.none : Option Jvm.ClassFile.FieldType), Jvm.Cond.code ({ cls := "java/lang/String", name := "<init>", desc := "([CIILjava/lang/Void;)V" } : Jvm.MethodName) jdk_42_method_149_code (6 : Nat) (Option.none : Option Jvm.ClassFile.FieldType), Jvm.Cond.code ({ cls := "java/lang/Object", name := "<init>", desc := "()V" } : Jvm.MethodName) object_method_1_code (1 : Nat) (Option.none : Option Jvm.ClassFile.FieldType), Jvm.Cond.code ({ cls := "java/lang/StringUTF16", name := "compress", desc := "([CII)[B" } : Jvm.MethodName) jdk_52_method_16_code (6 : Nat) (Option.some (Jvm.ClassFile.FieldType.array Jvm.ClassFile.FieldType.byte)), Jvm.Cond.code ({ cls := "java/lang/StringUTF16", name := "compress", desc := "([CI[BII)I" } : Jvm.MethodName) jdk_52_method_21_code (7 : Nat) (Option.some Jvm.ClassFile.FieldType.int), Jvm.Cond.code ({ cls := "java/lang/StringUTF16", name := "coderFromArrayLen", desc := "([BI)B" } : Jvm.MethodName) jdk_52_method_15_code (2 : Nat) (Option.some Jvm.ClassFile.FieldType.byte), Jvm.Cond.code ({ cls := "com/example/faturista/faturista/engine/missedcharges/BilledLine", name := "<init>", desc := "(Lcom/example/faturista/faturista/engine/missedcharges/ChargeCategory;Ljava/lang/String;)V" } : Jvm.MethodName) prog_79_method_1_code (3 : Nat) (Option.none : Option Jvm.ClassFile.FieldType), Jvm.Cond.code ({ cls := "java/util/Objects", name := "requireNonNull", desc := "(Ljava/lang/Object;Ljava/lang/String;)Ljava/lang/Object;" } : Jvm.MethodName) jdk_31_method_11_code (2 : Nat) (Option.some (Jvm.ClassFile.FieldType.object "java/lang/Object")), Jvm.Cond.code ({ cls := "com/example/faturista/faturista/engine/FieldChecks", name := "requireNotBlank", desc := "(Ljava/lang/String;Ljava/lang/String;)Ljava/lang/String;" } : Jvm.MethodName) prog_16_method_2_code (2 : Nat) (Option.some (Jvm.ClassFile.FieldType.object "java/lang/String")), Jvm.Cond.code ({ cls := "java/lang/String", name := "isBlank", desc := "()Z" } : Jvm.MethodName) jdk_42_method_117_code (1 : Nat) (Option.some Jvm.ClassFile.FieldType.boolean), Jvm.Cond.code ({ cls := "java/lang/String", name := "indexOfNonWhitespace", desc := "()I" } : Jvm.MethodName) jdk_42_method_120_code (1 : Nat) (Option.some Jvm.ClassFile.FieldType.int), Jvm.Cond.code ({ cls := "java/lang/String", name := "isLatin1", desc := "()Z" } : Jvm.MethodName) jdk_42_method_154_code (1 : Nat) (Option.some Jvm.ClassFile.FieldType.boolean), Jvm.Cond.code ({ cls := "java/lang/StringLatin1", name := "indexOfNonWhitespace", desc := "([B)I" } : Jvm.MethodName) jdk_43_method_37_code (4 : Nat) (Option.some Jvm.ClassFile.FieldType.int), Jvm.Cond.code ({ cls := "java/lang/StringLatin1", name := "getChar", desc := "([BI)C" } : Jvm.MethodName) jdk_43_method_44_code (2 : Nat) (Option.some Jvm.ClassFile.FieldType.char), Jvm.Cond.code ({ cls := "java/lang/CharacterDataLatin1", name := "isWhitespace", desc := "(I)Z" } : Jvm.MethodName) jdk_116_method_26_code (3 : Nat) (Option.some Jvm.ClassFile.FieldType.boolean), Jvm.Cond.code ({ cls := "java/lang/CharacterDataLatin1", name := "getProperties", desc := "(I)I" } : Jvm.MethodName) jdk_116_method_1_code (4 : Nat) (Option.some Jvm.ClassFile.FieldType.int), Jvm.Cond.code ({ cls := "java/lang/String", name := "length", desc := "()I" } : Jvm.MethodName) jdk_42_method_54_code (1 : Nat) (Option.some Jvm.ClassFile.FieldType.int), Jvm.Cond.code ({ cls := "java/lang/String", name := "coder", desc := "()B" } : Jvm.MethodName) jdk_42_method_152_code (1 : Nat) (Option.some Jvm.ClassFile.FieldType.byte), Jvm.Cond.code ({ cls := "com/example/faturista/faturista/engine/missedcharges/BilledLine", name := "equals", desc := "(Ljava/lang/Object;)Z" } : Jvm.MethodName) prog_79_method_4_code (3 : Nat) (Option.some Jvm.ClassFile.FieldType.boolean), Jvm.Cond.code ({ cls := "java/lang/String", name := "equals", desc := "(Ljava/lang/Object;)Z" } : Jvm.MethodName) jdk_42_method_66_code (3 : Nat) (Option.some Jvm.ClassFile.FieldType.boolean), Jvm.Cond.code ({ cls := "java/lang/StringLatin1", name := "equals", desc := "([B[B)Z" } : Jvm.MethodName) jdk_43_method_13_code (3 : Nat) (Option.some Jvm.ClassFile.FieldType.boolean)]
set_option maxRecDepth 65536 in
theorem codes_eq : words1.filter isCode = codes1 := rfl
theorem w_codes : ∀ c ∈ words1.filter isCode, c.before args0 about1 = true := by
  rw [codes_eq]
  intro c hc
  simp only [codes1, List.mem_cons, List.not_mem_nil, or_false] at hc
  rcases hc with rfl | rfl | rfl | rfl | rfl | rfl | rfl | rfl | rfl | rfl | rfl | rfl | rfl | rfl | rfl | rfl | rfl | rfl | rfl | rfl | rfl | rfl | rfl | rfl | rfl | rfl | rfl
  · exact w_c0
  · exact w_c1
  · exact w_c2
  · exact w_c3
  · exact w_c4
  · exact w_c5
  · exact w_c6
  · exact w_c7
  · exact w_c8
  · exact w_c9
  · exact w_c10
  · exact w_c11
  · exact w_c12
  · exact w_c13
  · exact w_c14
  · exact w_c15
  · exact w_c16
  · exact w_c17
  · exact w_c18
  · exact w_c19
  · exact w_c20
  · exact w_c21
  · exact w_c22
  · exact w_c23
  · exact w_c24
  · exact w_c25
  · exact w_c26
set_option maxRecDepth 65536 in
theorem w_t1 : (words1.take 24).all (fun c => isCode c || c.before args0 about1) = true := by decide +kernel
set_option maxRecDepth 65536 in
theorem w_t2 : ((words1.drop 24).take 24).all (fun c => isCode c || c.before args0 about1) = true := by decide +kernel
set_option maxRecDepth 65536 in
theorem w_t3 : (((words1.drop 24).drop 24).take 24).all (fun c => isCode c || c.before args0 about1) = true := by decide +kernel
set_option maxRecDepth 65536 in
theorem w_t4 : ((((words1.drop 24).drop 24).drop 24).take 24).all (fun c => isCode c || c.before args0 about1) = true := by decide +kernel
set_option maxRecDepth 65536 in
theorem w_t5 : (((((words1.drop 24).drop 24).drop 24).drop 24).take 24).all (fun c => isCode c || c.before args0 about1) = true := by decide +kernel
set_option maxRecDepth 65536 in
theorem w_t6 : (((((words1.drop 24).drop 24).drop 24).drop 24).drop 24).all (fun c => isCode c || c.before args0 about1) = true := by decide +kernel
theorem w_tables : (allAtoms (Jvm.Cond.code x code maxLocals ret :: tables_1)).before args0 about1 = true := by
  rw [allAtoms_all]
  show words1.all (fun c => c.before args0 about1) = true
  refine all_split ?_ w_codes
  rw [← List.take_append_drop 24 words1, List.all_append, w_t1, ← List.take_append_drop 24 (words1.drop 24), List.all_append, w_t2, ← List.take_append_drop 24 ((words1.drop 24).drop 24), List.all_append, w_t3, ← List.take_append_drop 24 (((words1.drop 24).drop 24).drop 24), List.all_append, w_t4, ← List.take_append_drop 24 ((((words1.drop 24).drop 24).drop 24).drop 24), List.all_append, w_t5, w_t6]
  rfl
set_option maxRecDepth 65536 in
theorem w_rest : rest_1_c.before args0 about1 = true := by decide +kernel
set_option maxRecDepth 65536 in
theorem w_case : (Jvm.Cond.and given_1 narrow_1).before args0 about1 = true := by decide +kernel
theorem w_applies : (headSpec (Jvm.Cond.code x code maxLocals ret :: tables_1) room_1).applies x e0.platform about1 = true :=
  (Spec.applies_iff w_frames).mpr ⟨w_running, w_runnable, w_alone, w_named, w_hears, w_ripe, w_room, w_tables⟩
theorem atStart : AtStart classFile x code maxLocals ret World_1 tables_1 room_1 Calls_1 rest_1 Pre_1 launch0 p0 e0 about1 theMethod args0 below0 :=
  ⟨lists_1, trivial, launch0.admits_env _ _ _, launch0.least_env, fairChoices_fair.cas, fairChoices_fair.clock, w_frames, w_args, w_heap, w_applies, trivial, w_rest, w_case⟩
end start1
theorem witness_1 : WitnessClaimed_1 := ⟨start1.p0, start1.e0, start1.about1, start1.theMethod, start1.args0, start1.below0, start1.atStart⟩
end Jvm.Pilot.@@N@@
