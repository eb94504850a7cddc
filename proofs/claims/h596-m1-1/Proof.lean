import JvmDerived
import JvmDerived.Pilot.@@N@@Statement
import JvmDerived.Pilot.@@N@@Code
set_option linter.unusedVariables false
set_option linter.unusedSimpArgs false
namespace Jvm.WK
open Sem ClassFile Op Lib Jvm.Stand Jvm.Free Jvm.LawKit Jvm.RoadKit Bundle
/-! WK: a walk in continuation form over RoadKit's laws: 'Go' (from this frame the invocation ends well), 'W' (where the walk stands; it may have interned), one law a step. -/
abbrev Cx : Type := Program × Env × State × MethodId × Array Value × List Frame × Method × Code
abbrev Cx.p (κ : Cx) : Program := κ.1
abbrev Cx.e (κ : Cx) : Env := κ.2.1
abbrev Cx.s (κ : Cx) : State := κ.2.2.1
abbrev Cx.m (κ : Cx) : MethodId := κ.2.2.2.1
abbrev Cx.a (κ : Cx) : Array Value := κ.2.2.2.2.1
abbrev Cx.b (κ : Cx) : List Frame := κ.2.2.2.2.2.1
abbrev Cx.M (κ : Cx) : Method := κ.2.2.2.2.2.2.1
abbrev Cx.c (κ : Cx) : Code := κ.2.2.2.2.2.2.2
def Fx (κ : Cx) (G : Option Value → State → Prop) (A : State) : Prop :=
  ∃ (v : Option Value) (B : State), Steps κ.p.tables κ.e κ.b A B ∧ B.status = .running ∧ Ended B κ.b (.returned v) ∧ G v B
abbrev Go (κ : Cx) (G : Option Value → State → Prop) (T : State) (pc : Nat) (Ls : Array Slot) (st : List Value) : Prop := Fx κ G (T.setTop (mkF κ.m pc Ls st))
section Base
variable {κ : Cx} {G : Option Value → State → Prop} {T : State}
theorem Fx.via {A A' : State} (k : ∀ t, Steps κ.p.tables κ.e κ.b A' t → Steps κ.p.tables κ.e κ.b A t) (f : Fx κ G A') : Fx κ G A := by
  obtain ⟨v, B, h1, h2⟩ := f; exact ⟨v, B, k _ h1, h2⟩
theorem Fx.after {A A' : State} (k : Steps κ.p.tables κ.e κ.b A A') (f : Fx κ G A') : Fx κ G A := by
  obtain ⟨v, B, h1, h2⟩ := f; exact ⟨v, B, k.trans h1, h2⟩
def Dec (κ : Cx) (D : List (Nat × Instr × Nat)) : Prop := ∀ q ∈ D, decode κ.c.code q.1 = .ok q.2
theorem Dec.g {D : List (Nat × Instr × Nat)} (d : Dec κ D) (i : Nat) {pc : Nat} {ins : Instr} {len : Nat} (h : D[i]? = some (pc, ins, len)) : decode κ.c.code pc = .ok (ins, len) := d (pc, ins, len) (List.mem_of_getElem? h)
theorem Dec.of {D : List (Nat × Instr × Nat)} {code : ByteArray} (hc : κ.c.code = code) (h : ∀ q ∈ D, decode code q.1 = .ok q.2) : Dec κ D := fun q hq => by rw [hc]; exact h q hq
theorem Go.top {pc : Nat} {Ls : Array Slot} {st : List Value} {x y : Int32} (e : x = y) (g : Go κ G T pc Ls (.int y :: st)) : Go κ G T pc Ls (.int x :: st) := by subst e; exact g
/-- it stands, and the tables execute as they should -/
def Ok (κ : Cx) (T : State) : Prop := At T κ.m κ.c κ.b ∧ κ.p.tables.exec = Jvm.exec
abbrev St : Type := Nat × Array Slot × List Value
def Snd (κ : Cx) (T : State) (f : St → Option St) : Prop := ∀ (a b : St) (G : Option Value → State → Prop), f a = some b → Go κ G T b.1 b.2.1 b.2.2 → Go κ G T a.1 a.2.1 a.2.2
def Opn (κ : Cx) (T : State) : Type := { f : St → Option St // Snd κ T f }
def run : List (Opn κ T) → St → Option St
  | [], a => some a
  | o :: os, a => match o.1 a with | some b => run os b | none => none
theorem run_ok : ∀ (os : List (Opn κ T)) (a b : St), run os a = some b → Go κ G T b.1 b.2.1 b.2.2 → Go κ G T a.1 a.2.1 a.2.2
  | [], a, b, h, g => by cases h; exact g
  | o :: os, a, b, h, g => by
    unfold run at h
    split at h
    · rename_i b' hb
      exact o.2 a b' G hb (run_ok os b' b h g)
    · cases h
theorem blk (os : List (Opn κ T)) {pc pc' : Nat} {Ls Ls' : Array Slot} {st st' : List Value} (h : run os (pc, Ls, st) = some (pc', Ls', st')) (g : Go κ G T pc' Ls' st') : Go κ G T pc Ls st := run_ok os (pc, Ls, st) (pc', Ls', st') h g
def mkOp (pc0 : Nat) (f : Array Slot → List Value → Option St) (hs : ∀ (Ls : Array Slot) (st : List Value) (b : St) (G : Option Value → State → Prop), f Ls st = some b → Go κ G T b.1 b.2.1 b.2.2 → Go κ G T pc0 Ls st) : Opn κ T :=
  ⟨fun a => match Nat.beq a.1 pc0 with | true => f a.2.1 a.2.2 | false => none, by
    intro a b G h g
    obtain ⟨pc, Ls, st⟩ := a
    dsimp only at h
    split at h
    · rename_i hb
      have := Nat.eq_of_beq_eq_true hb
      subst this
      exact hs Ls st b G h g
    · cases h⟩
end Base
section Ops
variable {κ : Cx} {T : State} {pc0 : Nat}
def oIconst (w : Ok κ T) {i : Int} (hd : decode κ.c.code pc0 = .ok (.iconst i, 1)) : Opn κ T := mkOp pc0 (fun Ls st => some (pc0 + 1, Ls, .int (Int32.ofInt i) :: st)) (by
  intro Ls st b G h g; cases h; exact Fx.via (fun _ => XS.iconst w.1 w.2 rfl hd) g)
def oBipush (w : Ok κ T) {i : Int} (hd : decode κ.c.code pc0 = .ok (.bipush i, 2)) : Opn κ T := mkOp pc0 (fun Ls st => some (pc0 + 2, Ls, .int (Int8.ofInt i).toInt32 :: st)) (by
  intro Ls st b G h g; cases h; exact Fx.via (fun _ => XS.bipush w.1 w.2 rfl hd) g)
def oSipush (w : Ok κ T) {i : Int} (hd : decode κ.c.code pc0 = .ok (.sipush i, 3)) : Opn κ T := mkOp pc0 (fun Ls st => some (pc0 + 3, Ls, .int (Int16.ofInt i).toInt32 :: st)) (by
  intro Ls st b G h g; cases h; exact Fx.via (fun _ => XS.sipush w.1 w.2 rfl hd) g)
def oAnull (w : Ok κ T) (hd : decode κ.c.code pc0 = .ok (.aconst_null, 1)) : Opn κ T := mkOp pc0 (fun Ls st => some (pc0 + 1, Ls, .null :: st)) (by
  intro Ls st b G h g; cases h; exact Fx.via (fun _ => XS.aconstNull w.1 w.2 rfl hd) g)
def oIload (w : Ok κ T) {k : Nat} (hd : decode κ.c.code pc0 = .ok (.iload k, 2)) : Opn κ T := mkOp pc0 (fun Ls st => match Ls[k]? with | some (.val (.int v)) => some (pc0 + 2, Ls, .int v :: st) | _ => none) (by
  intro Ls st b G h g
  split at h
  · rename_i v hl; cases h; exact Fx.via (fun _ => XS.iload w.1 w.2 rfl hd hl) g
  · cases h)
def oIloadN (w : Ok κ T) {k : Fin 4} (hd : decode κ.c.code pc0 = .ok (.iload_n k, 1)) : Opn κ T := mkOp pc0 (fun Ls st => match Ls[k.val]? with | some (.val (.int v)) => some (pc0 + 1, Ls, .int v :: st) | _ => none) (by
  intro Ls st b G h g
  split at h
  · rename_i v hl; cases h; exact Fx.via (fun _ => XS.iloadN w.1 w.2 rfl hd hl) g
  · cases h)
def oDload (w : Ok κ T) {k : Nat} (hd : decode κ.c.code pc0 = .ok (.dload k, 2)) : Opn κ T := mkOp pc0 (fun Ls st => match Ls[k]? with | some (.val (.double v)) => some (pc0 + 2, Ls, .double v :: st) | _ => none) (by
  intro Ls st b G h g
  split at h
  · rename_i v hl; cases h; exact Fx.via (fun _ => XS.dload w.1 w.2 rfl hd hl) g
  · cases h)
def oAload (w : Ok κ T) {k : Nat} (hd : decode κ.c.code pc0 = .ok (.aload k, 2)) : Opn κ T := mkOp pc0 (fun Ls st => match Ls[k]? with | some (.val (.ref v)) => some (pc0 + 2, Ls, .ref v :: st) | some (.val .null) => some (pc0 + 2, Ls, .null :: st) | _ => none) (by
  intro Ls st b G h g
  split at h
  · rename_i v hl; cases h; exact Fx.via (fun _ => XS.aload w.1 w.2 rfl hd hl rfl) g
  · rename_i hl; cases h; exact Fx.via (fun _ => XS.aload w.1 w.2 rfl hd hl rfl) g
  · cases h)
def oAloadN (w : Ok κ T) {k : Fin 4} (hd : decode κ.c.code pc0 = .ok (.aload_n k, 1)) : Opn κ T := mkOp pc0 (fun Ls st => match Ls[k.val]? with | some (.val (.ref v)) => some (pc0 + 1, Ls, .ref v :: st) | some (.val .null) => some (pc0 + 1, Ls, .null :: st) | _ => none) (by
  intro Ls st b G h g
  split at h
  · rename_i v hl; cases h; exact Fx.via (fun _ => XS.aloadN w.1 w.2 rfl hd hl rfl) g
  · rename_i hl; cases h; exact Fx.via (fun _ => XS.aloadN w.1 w.2 rfl hd hl rfl) g
  · cases h)
def oIstore (w : Ok κ T) {k : Nat} (hd : decode κ.c.code pc0 = .ok (.istore k, 2)) : Opn κ T := mkOp pc0 (fun Ls st => match st with | .int x :: r => (match storeLocals Ls k (.int x) with | some l' => some (pc0 + 2, l', r) | none => none) | _ => none) (by
  intro Ls st b G h g
  split at h
  · split at h
    · rename_i l' hl; cases h; exact Fx.via (fun _ => XS.istore w.1 w.2 rfl hd rfl hl) g
    · cases h
  · cases h)
def oIstoreN (w : Ok κ T) {k : Fin 4} (hd : decode κ.c.code pc0 = .ok (.istore_n k, 1)) : Opn κ T := mkOp pc0 (fun Ls st => match st with | .int x :: r => (match storeLocals Ls k.val (.int x) with | some l' => some (pc0 + 1, l', r) | none => none) | _ => none) (by
  intro Ls st b G h g
  split at h
  · split at h
    · rename_i l' hl; cases h; exact Fx.via (fun _ => XS.istoreN w.1 w.2 rfl hd rfl hl) g
    · cases h
  · cases h)
def oDstore (w : Ok κ T) {k : Nat} (hd : decode κ.c.code pc0 = .ok (.dstore k, 2)) : Opn κ T := mkOp pc0 (fun Ls st => match st with | .double x :: r => (match storeLocals Ls k (.double x) with | some l' => some (pc0 + 2, l', r) | none => none) | _ => none) (by
  intro Ls st b G h g
  split at h
  · split at h
    · rename_i l' hl; cases h; exact Fx.via (fun _ => XS.dstore w.1 w.2 rfl hd rfl hl) g
    · cases h
  · cases h)
def oAstore (w : Ok κ T) {k : Nat} (hd : decode κ.c.code pc0 = .ok (.astore k, 2)) : Opn κ T := mkOp pc0 (fun Ls st => match st with | .ref x :: r => (match storeLocals Ls k (.ref x) with | some l' => some (pc0 + 2, l', r) | none => none) | .null :: r => (match storeLocals Ls k .null with | some l' => some (pc0 + 2, l', r) | none => none) | _ => none) (by
  intro Ls st b G h g
  split at h
  · split at h
    · rename_i l' hl; cases h; exact Fx.via (fun _ => XS.astore w.1 w.2 rfl hd rfl rfl hl) g
    · cases h
  · split at h
    · rename_i l' hl; cases h; exact Fx.via (fun _ => XS.astore w.1 w.2 rfl hd rfl rfl hl) g
    · cases h
  · cases h)
def oAstoreN (w : Ok κ T) {k : Fin 4} (hd : decode κ.c.code pc0 = .ok (.astore_n k, 1)) : Opn κ T := mkOp pc0 (fun Ls st => match st with | .ref x :: r => (match storeLocals Ls k.val (.ref x) with | some l' => some (pc0 + 1, l', r) | none => none) | .null :: r => (match storeLocals Ls k.val .null with | some l' => some (pc0 + 1, l', r) | none => none) | _ => none) (by
  intro Ls st b G h g
  split at h
  · split at h
    · rename_i l' hl; cases h; exact Fx.via (fun _ => XS.astoreN w.1 w.2 rfl hd rfl rfl hl) g
    · cases h
  · split at h
    · rename_i l' hl; cases h; exact Fx.via (fun _ => XS.astoreN w.1 w.2 rfl hd rfl rfl hl) g
    · cases h
  · cases h)
def oIinc (w : Ok κ T) {k : Nat} {z : Int} (hd : decode κ.c.code pc0 = .ok (.iinc k z, 3)) : Opn κ T := mkOp pc0 (fun Ls st => match Ls[k]? with | some (.val (.int x)) => (match storeLocals Ls k (.int (x + Int32.ofInt z)) with | some l' => some (pc0 + 3, l', st) | none => none) | _ => none) (by
  intro Ls st b G h g
  split at h
  · rename_i x hx
    split at h
    · rename_i l' hl; cases h; exact Fx.via (fun _ => XS.iinc w.1 w.2 rfl hd hx hl) g
    · cases h
  · cases h)
def oBin (pc0 : Nat) (f : Int32 → Int32 → Int32) (hs : ∀ (x y : Int32) (r : List Value) (Ls : Array Slot) (G : Option Value → State → Prop), Go κ G T (pc0 + 1) Ls (.int (f x y) :: r) → Go κ G T pc0 Ls (.int y :: .int x :: r)) : Opn κ T := mkOp pc0 (fun Ls st => match st with | .int y :: .int x :: r => some (pc0 + 1, Ls, .int (f x y) :: r) | _ => none) (by
  intro Ls st b G h g
  split at h
  · cases h; exact hs _ _ _ _ _ g
  · cases h)
def oIadd (w : Ok κ T) (hd : decode κ.c.code pc0 = .ok (.iadd, 1)) : Opn κ T := oBin pc0 (fun x y => x + y) (fun _ _ _ _ _ g => Fx.via (fun _ => XS.iadd w.1 w.2 rfl hd rfl) g)
def oIsub (w : Ok κ T) (hd : decode κ.c.code pc0 = .ok (.isub, 1)) : Opn κ T := oBin pc0 (fun x y => x - y) (fun _ _ _ _ _ g => Fx.via (fun _ => XS.isub w.1 w.2 rfl hd rfl) g)
def oImul (w : Ok κ T) (hd : decode κ.c.code pc0 = .ok (.imul, 1)) : Opn κ T := oBin pc0 (fun x y => x * y) (fun _ _ _ _ _ g => Fx.via (fun _ => XS.imul w.1 w.2 rfl hd rfl) g)
def oIand (w : Ok κ T) (hd : decode κ.c.code pc0 = .ok (.iand, 1)) : Opn κ T := oBin pc0 (fun x y => x &&& y) (fun _ _ _ _ _ g => Fx.via (fun _ => XS.iand w.1 w.2 rfl hd rfl) g)
def oIor (w : Ok κ T) (hd : decode κ.c.code pc0 = .ok (.ior, 1)) : Opn κ T := oBin pc0 (fun x y => x ||| y) (fun _ _ _ _ _ g => Fx.via (fun _ => XS.ior w.1 w.2 rfl hd rfl) g)
def oIxor (w : Ok κ T) (hd : decode κ.c.code pc0 = .ok (.ixor, 1)) : Opn κ T := oBin pc0 (fun x y => x ^^^ y) (fun _ _ _ _ _ g => Fx.via (fun _ => XS.ixor w.1 w.2 rfl hd rfl) g)
def oIshl (w : Ok κ T) (hd : decode κ.c.code pc0 = .ok (.ishl, 1)) : Opn κ T := oBin pc0 (fun x y => x <<< (y &&& 31)) (fun _ _ _ _ _ g => Fx.via (fun _ => XS.ishl w.1 w.2 rfl hd rfl) g)
def oIshr (w : Ok κ T) (hd : decode κ.c.code pc0 = .ok (.ishr, 1)) : Opn κ T := oBin pc0 (fun x y => x >>> (y &&& 31)) (fun _ _ _ _ _ g => Fx.via (fun _ => XS.ishr w.1 w.2 rfl hd rfl) g)
def oIushr (w : Ok κ T) (hd : decode κ.c.code pc0 = .ok (.iushr, 1)) : Opn κ T := oBin pc0 (fun x y => (x.toUInt32 >>> (y &&& 31).toUInt32).toInt32) (fun _ _ _ _ _ g => Fx.via (fun _ => XS.iushr w.1 w.2 rfl hd rfl) g)
def oIrem (w : Ok κ T) (hd : decode κ.c.code pc0 = .ok (.irem, 1)) : Opn κ T := mkOp pc0 (fun Ls st => match st with | .int y :: .int x :: r => (match decEq y 0 with | isTrue _ => none | isFalse _ => some (pc0 + 1, Ls, .int (x % y) :: r)) | _ => none) (by
  intro Ls st b G h g
  split at h
  · split at h
    · cases h
    · rename_i x y r _ hy _; cases h
      refine Fx.via (fun _ z => XS.irem w.1 w.2 rfl hd rfl hy ?_) g
      have q := irem_eq_mod
      rw [q]; exact z
  · cases h)
def oUn (pc0 : Nat) (f : Int32 → Int32) (hs : ∀ (x : Int32) (r : List Value) (Ls : Array Slot) (G : Option Value → State → Prop), Go κ G T (pc0 + 1) Ls (.int (f x) :: r) → Go κ G T pc0 Ls (.int x :: r)) : Opn κ T := mkOp pc0 (fun Ls st => match st with | .int x :: r => some (pc0 + 1, Ls, .int (f x) :: r) | _ => none) (by
  intro Ls st b G h g
  split at h
  · cases h; exact hs _ _ _ _ g
  · cases h)
def oIneg (w : Ok κ T) (hd : decode κ.c.code pc0 = .ok (.ineg, 1)) : Opn κ T := oUn pc0 (fun x => -x) (fun _ _ _ _ g => Fx.via (fun _ => XS.ineg w.1 w.2 rfl hd rfl) g)
def oI2b (w : Ok κ T) (hd : decode κ.c.code pc0 = .ok (.i2b, 1)) : Opn κ T := oUn pc0 (fun x => x.toInt8.toInt32) (fun _ _ _ _ g => Fx.via (fun _ => XS.i2b w.1 w.2 rfl hd rfl) g)
def oI2c (w : Ok κ T) (hd : decode κ.c.code pc0 = .ok (.i2c, 1)) : Opn κ T := oUn pc0 (fun x => x.toUInt32.toUInt16.toUInt32.toInt32) (fun _ _ _ _ g => Fx.via (fun _ => XS.i2c w.1 w.2 rfl hd rfl) g)
def oI2s (w : Ok κ T) (hd : decode κ.c.code pc0 = .ok (.i2s, 1)) : Opn κ T := oUn pc0 (fun x => x.toInt16.toInt32) (fun _ _ _ _ g => Fx.via (fun _ => XS.i2s w.1 w.2 rfl hd rfl) g)
def oI2d (w : Ok κ T) (hd : decode κ.c.code pc0 = .ok (.i2d, 1)) : Opn κ T := mkOp pc0 (fun Ls st => match st with | .int x :: r => some (pc0 + 1, Ls, .double (FP.i2d x) :: r) | _ => none) (by
  intro Ls st b G h g
  split at h
  · cases h; exact Fx.via (fun _ => XS.i2dS w.1 w.2 rfl hd rfl rfl) g
  · cases h)
def oDup (w : Ok κ T) (hd : decode κ.c.code pc0 = .ok (.dup, 1)) : Opn κ T := mkOp pc0 (fun Ls st => match st with | .int x :: r => some (pc0 + 1, Ls, .int x :: .int x :: r) | .ref x :: r => some (pc0 + 1, Ls, .ref x :: .ref x :: r) | _ => none) (by
  intro Ls st b G h g
  split at h
  · cases h; exact Fx.via (fun _ => XS.dup w.1 w.2 rfl hd rfl rfl) g
  · cases h; exact Fx.via (fun _ => XS.dup w.1 w.2 rfl hd rfl rfl) g
  · cases h)
def oPop (w : Ok κ T) (hd : decode κ.c.code pc0 = .ok (.pop, 1)) : Opn κ T := mkOp pc0 (fun Ls st => match st with | .int x :: r => some (pc0 + 1, Ls, r) | .ref x :: r => some (pc0 + 1, Ls, r) | .null :: r => some (pc0 + 1, Ls, r) | _ => none) (by
  intro Ls st b G h g
  split at h
  · cases h; exact Fx.via (fun _ => XS.pop w.1 w.2 rfl hd rfl rfl) g
  · cases h; exact Fx.via (fun _ => XS.pop w.1 w.2 rfl hd rfl rfl) g
  · cases h; exact Fx.via (fun _ => XS.pop w.1 w.2 rfl hd rfl rfl) g
  · cases h)
def oGoto (w : Ok κ T) {o : Int} (pc' : Nat) (hd : decode κ.c.code pc0 = .ok (.goto o, 3)) (ho : 0 ≤ (pc0 : Int) + o := by decide) (hp : ((pc0 : Int) + o).toNat = pc' := by decide) : Opn κ T := mkOp pc0 (fun Ls st => some (pc', Ls, st)) (by
  intro Ls st b G h g; cases h; exact Fx.via (fun _ => XS.goto w.1 w.2 rfl rfl hd ho hp) g)
end Ops
section Branch
variable {κ : Cx} {G : Option Value → State → Prop} {T : State} {pc pc' : Nat} {Ls : Array Slot} {st : List Value} {x y : Int32} {o : Int}
theorem if_icmpG (w : Ok κ T) {cd : ClassFile.Cond} (hd : decode κ.c.code pc = .ok (.if_icmp cd o, 3)) (ho : 0 ≤ (pc : Int) + o) (hp : ((pc : Int) + o).toNat = pc') (hT : if_icmp.holds cd x y = true → Go κ G T pc' Ls st) (hF : if_icmp.holds cd x y = false → Go κ G T (pc + 3) Ls st) : Go κ G T pc Ls (.int y :: .int x :: st) := by
  cases hb : if_icmp.holds cd x y with
  | true => exact Fx.via (fun _ => XS.icmpYes w.1 w.2 rfl rfl hd rfl hb ho hp) (hT hb)
  | false => exact Fx.via (fun _ => XS.icmpNo w.1 w.2 rfl hd rfl hb) (hF hb)
theorem ifG (w : Ok κ T) {cd : ClassFile.Cond} (hd : decode κ.c.code pc = .ok (.ifCond cd o, 3)) (ho : 0 ≤ (pc : Int) + o) (hp : ((pc : Int) + o).toNat = pc') (hT : if_icmp.holds cd x 0 = true → Go κ G T pc' Ls st) (hF : if_icmp.holds cd x 0 = false → Go κ G T (pc + 3) Ls st) : Go κ G T pc Ls (.int x :: st) := by
  cases hb : if_icmp.holds cd x 0 with
  | true => exact Fx.via (fun _ => XS.ifYes w.1 w.2 rfl rfl hd rfl ((if0 cd x).trans hb) ho hp) (hT hb)
  | false => exact Fx.via (fun _ => XS.ifNo w.1 w.2 rfl hd rfl ((if0 cd x).trans hb)) (hF hb)
theorem h_eq {x y : Int32} : (if_icmp.holds .eq x y = true → x = y) ∧ (if_icmp.holds .eq x y = false → ¬ x = y) := ⟨fun h => Classical.byContradiction fun q => (by rw [(feq q).1] at h; cases h), fun h q => (by rw [(teq q).1] at h; cases h)⟩
theorem h_ne {x y : Int32} : (if_icmp.holds .ne x y = true → ¬ x = y) ∧ (if_icmp.holds .ne x y = false → x = y) := ⟨fun h q => (by rw [(teq q).2] at h; cases h), fun h => Classical.byContradiction fun q => (by rw [(feq q).2] at h; cases h)⟩
theorem h_lt {x y : Int32} : (if_icmp.holds .lt x y = true → x < y) ∧ (if_icmp.holds .lt x y = false → ¬ x < y) := ⟨fun h => Classical.byContradiction fun q => (by rw [(flt q).1] at h; cases h), fun h q => (by rw [(tlt q).1] at h; cases h)⟩
theorem h_ge {x y : Int32} : (if_icmp.holds .ge x y = true → ¬ x < y) ∧ (if_icmp.holds .ge x y = false → x < y) := ⟨fun h q => (by rw [(tlt q).2.1] at h; cases h), fun h => Classical.byContradiction fun q => (by rw [(flt q).2.1] at h; cases h)⟩
theorem h_gt {x y : Int32} : (if_icmp.holds .gt x y = true → y < x) ∧ (if_icmp.holds .gt x y = false → ¬ y < x) := ⟨fun h => Classical.byContradiction fun q => (by rw [(flt q).2.2.1] at h; cases h), fun h q => (by rw [(tlt q).2.2.1] at h; cases h)⟩
theorem h_le {x y : Int32} : (if_icmp.holds .le x y = true → ¬ y < x) ∧ (if_icmp.holds .le x y = false → y < x) := ⟨fun h q => (by rw [(tlt q).2.2.2] at h; cases h), fun h => Classical.byContradiction fun q => (by rw [(flt q).2.2.2] at h; cases h)⟩
theorem cEq (w : Ok κ T) (hd : decode κ.c.code pc = .ok (.if_icmp .eq o, 3)) (ho : 0 ≤ (pc : Int) + o) (hp : ((pc : Int) + o).toNat = pc') (hT : x = y → Go κ G T pc' Ls st) (hF : ¬ x = y → Go κ G T (pc + 3) Ls st) : Go κ G T pc Ls (.int y :: .int x :: st) := if_icmpG w hd ho hp (fun q => hT (h_eq.1 q)) (fun q => hF (h_eq.2 q))
theorem cNe (w : Ok κ T) (hd : decode κ.c.code pc = .ok (.if_icmp .ne o, 3)) (ho : 0 ≤ (pc : Int) + o) (hp : ((pc : Int) + o).toNat = pc') (hT : ¬ x = y → Go κ G T pc' Ls st) (hF : x = y → Go κ G T (pc + 3) Ls st) : Go κ G T pc Ls (.int y :: .int x :: st) := if_icmpG w hd ho hp (fun q => hT (h_ne.1 q)) (fun q => hF (h_ne.2 q))
theorem cLt (w : Ok κ T) (hd : decode κ.c.code pc = .ok (.if_icmp .lt o, 3)) (ho : 0 ≤ (pc : Int) + o) (hp : ((pc : Int) + o).toNat = pc') (hT : x < y → Go κ G T pc' Ls st) (hF : ¬ x < y → Go κ G T (pc + 3) Ls st) : Go κ G T pc Ls (.int y :: .int x :: st) := if_icmpG w hd ho hp (fun q => hT (h_lt.1 q)) (fun q => hF (h_lt.2 q))
theorem cGe (w : Ok κ T) (hd : decode κ.c.code pc = .ok (.if_icmp .ge o, 3)) (ho : 0 ≤ (pc : Int) + o) (hp : ((pc : Int) + o).toNat = pc') (hT : ¬ x < y → Go κ G T pc' Ls st) (hF : x < y → Go κ G T (pc + 3) Ls st) : Go κ G T pc Ls (.int y :: .int x :: st) := if_icmpG w hd ho hp (fun q => hT (h_ge.1 q)) (fun q => hF (h_ge.2 q))
theorem cGt (w : Ok κ T) (hd : decode κ.c.code pc = .ok (.if_icmp .gt o, 3)) (ho : 0 ≤ (pc : Int) + o) (hp : ((pc : Int) + o).toNat = pc') (hT : y < x → Go κ G T pc' Ls st) (hF : ¬ y < x → Go κ G T (pc + 3) Ls st) : Go κ G T pc Ls (.int y :: .int x :: st) := if_icmpG w hd ho hp (fun q => hT (h_gt.1 q)) (fun q => hF (h_gt.2 q))
theorem cLe (w : Ok κ T) (hd : decode κ.c.code pc = .ok (.if_icmp .le o, 3)) (ho : 0 ≤ (pc : Int) + o) (hp : ((pc : Int) + o).toNat = pc') (hT : ¬ y < x → Go κ G T pc' Ls st) (hF : y < x → Go κ G T (pc + 3) Ls st) : Go κ G T pc Ls (.int y :: .int x :: st) := if_icmpG w hd ho hp (fun q => hT (h_le.1 q)) (fun q => hF (h_le.2 q))
theorem zEq (w : Ok κ T) (hd : decode κ.c.code pc = .ok (.ifCond .eq o, 3)) (ho : 0 ≤ (pc : Int) + o) (hp : ((pc : Int) + o).toNat = pc') (hT : x = 0 → Go κ G T pc' Ls st) (hF : ¬ x = 0 → Go κ G T (pc + 3) Ls st) : Go κ G T pc Ls (.int x :: st) := ifG w hd ho hp (fun q => hT (h_eq.1 q)) (fun q => hF (h_eq.2 q))
theorem zNe (w : Ok κ T) (hd : decode κ.c.code pc = .ok (.ifCond .ne o, 3)) (ho : 0 ≤ (pc : Int) + o) (hp : ((pc : Int) + o).toNat = pc') (hT : ¬ x = 0 → Go κ G T pc' Ls st) (hF : x = 0 → Go κ G T (pc + 3) Ls st) : Go κ G T pc Ls (.int x :: st) := ifG w hd ho hp (fun q => hT (h_ne.1 q)) (fun q => hF (h_ne.2 q))
theorem zLt (w : Ok κ T) (hd : decode κ.c.code pc = .ok (.ifCond .lt o, 3)) (ho : 0 ≤ (pc : Int) + o) (hp : ((pc : Int) + o).toNat = pc') (hT : x < 0 → Go κ G T pc' Ls st) (hF : ¬ x < 0 → Go κ G T (pc + 3) Ls st) : Go κ G T pc Ls (.int x :: st) := ifG w hd ho hp (fun q => hT (h_lt.1 q)) (fun q => hF (h_lt.2 q))
theorem zGe (w : Ok κ T) (hd : decode κ.c.code pc = .ok (.ifCond .ge o, 3)) (ho : 0 ≤ (pc : Int) + o) (hp : ((pc : Int) + o).toNat = pc') (hT : ¬ x < 0 → Go κ G T pc' Ls st) (hF : x < 0 → Go κ G T (pc + 3) Ls st) : Go κ G T pc Ls (.int x :: st) := ifG w hd ho hp (fun q => hT (h_ge.1 q)) (fun q => hF (h_ge.2 q))
theorem zGt (w : Ok κ T) (hd : decode κ.c.code pc = .ok (.ifCond .gt o, 3)) (ho : 0 ≤ (pc : Int) + o) (hp : ((pc : Int) + o).toNat = pc') (hT : 0 < x → Go κ G T pc' Ls st) (hF : ¬ 0 < x → Go κ G T (pc + 3) Ls st) : Go κ G T pc Ls (.int x :: st) := ifG w hd ho hp (fun q => hT (h_gt.1 q)) (fun q => hF (h_gt.2 q))
theorem zLe (w : Ok κ T) (hd : decode κ.c.code pc = .ok (.ifCond .le o, 3)) (ho : 0 ≤ (pc : Int) + o) (hp : ((pc : Int) + o).toNat = pc') (hT : ¬ 0 < x → Go κ G T pc' Ls st) (hF : 0 < x → Go κ G T (pc + 3) Ls st) : Go κ G T pc Ls (.int x :: st) := ifG w hd ho hp (fun q => hT (h_le.1 q)) (fun q => hF (h_le.2 q))
theorem nnRef (w : Ok κ T) {a : Addr} (hd : decode κ.c.code pc = .ok (.ifnonnull o, 3)) (ho : 0 ≤ (pc : Int) + o) (hp : ((pc : Int) + o).toNat = pc') (g : Go κ G T pc' Ls st) : Go κ G T pc Ls (.ref a :: st) := Fx.via (fun _ => XT.nonnullYes w.1 w.2 rfl rfl hd rfl rfl (fun q => nomatch q) ho hp) g
theorem nnNull (w : Ok κ T) (hd : decode κ.c.code pc = .ok (.ifnonnull o, 3)) (g : Go κ G T (pc + 3) Ls st) : Go κ G T pc Ls (.null :: st) := Fx.via (fun _ => XT.nonnullNo w.1 w.2 rfl hd rfl rfl) g
theorem nuNull (w : Ok κ T) (hd : decode κ.c.code pc = .ok (.ifnull o, 3)) (ho : 0 ≤ (pc : Int) + o) (hp : ((pc : Int) + o).toNat = pc') (g : Go κ G T pc' Ls st) : Go κ G T pc Ls (.null :: st) := Fx.via (fun _ => XS.ifnullYes w.1 w.2 rfl rfl hd rfl ho hp) g
theorem nuRef (w : Ok κ T) {a : Addr} (hd : decode κ.c.code pc = .ok (.ifnull o, 3)) (g : Go κ G T (pc + 3) Ls st) : Go κ G T pc Ls (.ref a :: st) := Fx.via (fun _ => XS.ifnullNo w.1 w.2 rfl hd rfl) g
theorem aloadV (w : Ok κ T) {k : Nat} {v : Value} (hd : decode κ.c.code pc = .ok (.aload k, 2)) (hl : Ls[k]? = some (.val v)) (hv : v.isRef = true) (g : Go κ G T (pc + 2) Ls (v :: st)) : Go κ G T pc Ls st := Fx.via (fun _ => XS.aload w.1 w.2 rfl hd hl hv) g
theorem aloadNV (w : Ok κ T) {k : Fin 4} {v : Value} (hd : decode κ.c.code pc = .ok (.aload_n k, 1)) (hl : Ls[k.val]? = some (.val v)) (hv : v.isRef = true) (g : Go κ G T (pc + 1) Ls (v :: st)) : Go κ G T pc Ls st := Fx.via (fun _ => XS.aloadN w.1 w.2 rfl hd hl hv) g
theorem astoreV (w : Ok κ T) {k : Nat} {v : Value} {l' : Array Slot} (hd : decode κ.c.code pc = .ok (.astore k, 2)) (hv : v.isRef = true) (hl : storeLocals Ls k v = some l') (g : Go κ G T (pc + 2) l' st) : Go κ G T pc Ls (v :: st) := Fx.via (fun _ => XS.astore w.1 w.2 rfl hd rfl hv hl) g
theorem astoreNV (w : Ok κ T) {k : Fin 4} {v : Value} {l' : Array Slot} (hd : decode κ.c.code pc = .ok (.astore_n k, 1)) (hv : v.isRef = true) (hl : storeLocals Ls k.val v = some l') (g : Go κ G T (pc + 1) l' st) : Go κ G T pc Ls (v :: st) := Fx.via (fun _ => XS.astoreN w.1 w.2 rfl hd rfl hv hl) g
theorem istoreG (w : Ok κ T) {k : Nat} {o' : Slot} (hd : decode κ.c.code pc = .ok (.istore k, 2)) (hold : Ls[k]? = some o') (ho : One o') (g : Go κ G T (pc + 2) (Ls.setIfInBounds k (.val (.int x))) st) : Go κ G T pc Ls (.int x :: st) := Fx.via (fun _ => XS.istoreS w.1 w.2 rfl hd rfl hold ho) g
theorem istoreNG (w : Ok κ T) {k : Fin 4} {o' : Slot} (hd : decode κ.c.code pc = .ok (.istore_n k, 1)) (hold : Ls[k.val]? = some o') (ho : One o') (g : Go κ G T (pc + 1) (Ls.setIfInBounds k.val (.val (.int x))) st) : Go κ G T pc Ls (.int x :: st) := Fx.via (fun _ => XS.istoreNS w.1 w.2 rfl hd rfl hold ho) g
theorem astoreG (w : Ok κ T) {k : Nat} {o' : Slot} {a : Addr} (hd : decode κ.c.code pc = .ok (.astore k, 2)) (hold : Ls[k]? = some o') (ho : One o') (g : Go κ G T (pc + 2) (Ls.setIfInBounds k (.val (.ref a))) st) : Go κ G T pc Ls (.ref a :: st) := Fx.via (fun _ => XS.astoreS w.1 w.2 rfl hd rfl rfl rfl hold ho) g
end Branch
end Jvm.WK
namespace Jvm.WK
open Sem ClassFile Op Lib Jvm.Stand Jvm.Free Jvm.LawKit Jvm.RoadKit Bundle
/-! WKN: the narrow walk's relation: CHr, and the tables have only warmed -/
def Nw (vm vm' : Vm) : Prop := ∀ s : State, s.vm = vm → s.WarmedH vm'
theorem Nw.refl (vm : Vm) : Nw vm vm := fun s h => by subst h; exact State.WarmedH.refl s
theorem Nw.trans {a b c : Vm} (h1 : Nw a b) (h2 : Nw b c) : Nw a c := fun s h => State.WarmedH.trans (t := s.setVm b) (h1 s h) (h2 (s.setVm b) rfl)
def CRn (Z : State) (EL : List (String × Nat)) (vm : Vm) (h : Heap) (vm' : Vm) (h' : Heap) : Prop := CHv Z EL vm' h' ∧ CHr Z EL vm h vm' h' ∧ Nw vm vm'
section CRnFacts
variable {Z : State} {EL : List (String × Nat)} {vm vm1 vm2 : Vm} {h h' h2 : Heap}
theorem CRn.refl (H : CHv Z EL vm h) : CRn Z EL vm h vm h := ⟨H, CHr.refl H, Nw.refl vm⟩
theorem CRn.trans (A : CRn Z EL vm h vm1 h') (B : CRn Z EL vm1 h' vm2 h2) : CRn Z EL vm h vm2 h2 := ⟨B.1, A.2.1.trans B.2.1, A.2.2.trans B.2.2⟩
theorem CRn.safe (A : CRn Z EL vm h vm1 h') {x : Addr} (hx : x < h.size) (S : Safe Z EL vm h x) : Safe Z EL vm1 h' x := A.2.1.safe hx S
theorem CRn.ext (E : Ext h h') (H : CHv Z EL vm h) : CRn Z EL vm h vm h' := ⟨H.ext E, CHr.ext E H, Nw.refl vm⟩
theorem CRn.keep {ws : List Addr} (K : Keep h h' ws) (hs : ∀ x ∈ ws, Safe Z EL vm h x) (H : CHv Z EL vm h) : CRn Z EL vm h vm h' := ⟨H.keep K hs, CHr.keep K hs H, Nw.refl vm⟩
theorem CRn.wr {a : Addr} {sl : Nat} {v : Value} (W : Wr h h' a sl v) (S : Safe Z EL vm h a) (H : CHv Z EL vm h) : CRn Z EL vm h vm h' := ⟨H.wr W S, CHr.wr W S H, Nw.refl vm⟩
theorem CRn.at {p : Program} {l : Launch} {e : Env} {R : Room} {s : State} {m : MethodId} {args : Array Value} {below : List Frame} {meth : Method} {c : Code} {T : State} {locs : List Loc} {cells slots : Nat} {a0 : Array Value} (X : Stand p l e R (s.setVm vm) m args below meth c T locs cells slots) (hZ : Z.Warmed39 vm) (w : EW Z a0 EL) (H : CHv Z EL vm h) : CRn Z EL vm h T.vm h :=
  ⟨(CHv.at X hZ w H).1, CHv.at X hZ w H, fun u hu => State.WarmedH.of_rootvm (s := s.setVm vm) hu X.warmed⟩
end CRnFacts
end Jvm.WK
namespace Jvm.WK
open Sem ClassFile Op Lib Jvm.Stand Jvm.Free Jvm.LawKit Jvm.RoadKit Bundle
theorem wd {L : List Jvm.Cond} {a0 : Array Value} {Z : State} (hw : ∀ d ∈ L, d.before a0 Z = true) (k : Nat) {d : Jvm.Cond} (h : L[k]? = some d) : d.before a0 Z = true := hw d (List.mem_of_getElem? h)
/-- an array of ints (or chars, bytes ..) with its values -/
def Ary (Z : State) (h : Heap) (a : Addr) (ty : FieldType) (vs : List Int32) : Prop :=
  ∃ c : Cell, Arr Z h a c ty ∧ c.slots.toList = vs.map Value.int ∧ vs.length < 2147483648 ∧ ∀ v ∈ vs, fits ty (.int v) = true
section AryFacts
variable {Z : State} {h h' : Heap} {a b : Addr} {ty : FieldType} {vs : List Int32} {ws : List Addr} {sl : Nat} {v : Value}
theorem Ary.lt (F : Ary Z h a ty vs) : a < h.size := by obtain ⟨c, A, -⟩ := F; exact A.lt
theorem Ary.ext (E : Ext h h') (F : Ary Z h a ty vs) : Ary Z h' a ty vs := by obtain ⟨c, A, r⟩ := F; exact ⟨c, A.ext E, r⟩
theorem Ary.other (W : Wr h h' b sl v) (F : Ary Z h a ty vs) (q : a ≠ b) : Ary Z h' a ty vs := by obtain ⟨c, A, r⟩ := F; exact ⟨c, A.other W q, r⟩
theorem Ary.keep (K : Keep h h' ws) (F : Ary Z h a ty vs) (q : a ∉ ws) : Ary Z h' a ty vs := by obtain ⟨c, A, r⟩ := F; exact ⟨c, ⟨K.2.1 a c A.1 q, A.2⟩, r⟩
theorem Ary.small (F : Ary Z h a ty vs) : vs.length < 2147483648 := by obtain ⟨c, A, r1, r2, -⟩ := F; exact r2
theorem Ary.fit (F : Ary Z h a ty vs) : ∀ v ∈ vs, fits ty (.int v) = true := by obtain ⟨c, A, r1, r2, r3⟩ := F; exact r3
theorem clamp_ofNat {i : Nat} (h : i < 2147483648) : (Int32.ofNat i).toNatClampNeg = i := by
  have h1 : (Int32.ofNat i).toInt = (i : Int) := Int32.toInt_ofNat_small (by omega)
  show (Int32.ofNat i).toInt.toNat = i
  rw [h1]; rfl
theorem nneg_ofNat {i : Nat} (h : i < 2147483648) : ¬ (Int32.ofNat i) < 0 := by
  have h1 : (Int32.ofNat i).toInt = (i : Int) := Int32.toInt_ofNat_small (by omega)
  rw [Int32.lt_iff_toInt_lt, h1]
  show ¬ ((i : Int) < 0)
  omega
theorem Ary.inb {c : Cell} {i : Nat} (hs : c.slots.toList = vs.map Value.int) (hl : vs.length < 2147483648) (hi : i < vs.length) : ¬ (Int32.ofNat i < 0 ∨ c.slots.size ≤ (Int32.ofNat i).toNatClampNeg) := by
  have hz : c.slots.size = vs.length := by
    have := congrArg List.length hs
    simpa using this
  rw [clamp_ofNat (by omega)]
  have := nneg_ofNat (i := i) (by omega)
  exact fun q => q.elim this (fun q => by omega)
theorem Ary.at {c : Cell} {i : Nat} (hs : c.slots.toList = vs.map Value.int) (hl : vs.length < 2147483648) (hi : i < vs.length) {x : Int32} (hx : vs[i]? = some x) : c.slots[(Int32.ofNat i).toNatClampNeg]? = some (.int x) := by
  rw [clamp_ofNat (by omega)]
  have : c.slots[i]? = c.slots.toList[i]? := by simp
  rw [this, hs]
  simp [hx]
theorem Ary.arv (F : Ary Z h a ty vs) : ∃ k, Arv Z h a k ty (Int32.ofNat vs.length) (vs.map Value.int) (.int 0) := by
  obtain ⟨c, A, r1, r2, r3⟩ := F
  have hz : c.slots.size = vs.length := by
    have := congrArg List.length r1
    simpa using this
  have H : Has c (vs.map Value.int) (.int 0) := fun k hk => by
    have : c.slots[k]? = c.slots.toList[k]? := by simp
    rw [this, r1]
    have hk' : k < vs.length := by omega
    simp [List.getD, hk']
  refine ⟨c.cls, c, A, rfl, by rw [hz, clamp_ofNat r2], nneg_ofNat r2, H, fun i hi => ?_⟩
  have hi' : i < vs.length := by omega
  simp only [List.getD, List.getElem?_map, List.getElem?_eq_getElem hi', Option.map_some, Option.getD_some]
  exact r3 _ (List.getElem_mem hi')
theorem Ary.of_arv {k : ClassId} {z : Int32} (hz : z.toNatClampNeg = vs.length) (F : Arv Z h a k ty z (vs.map Value.int) (.int 0)) : Ary Z h a ty vs := by
  obtain ⟨c, A, r1, r2, r3, H, r4⟩ := F
  have hs : c.slots.size = vs.length := r2.trans hz
  have hb := (back32 r3).2
  refine ⟨c, A, ?_, by omega, fun v hv => ?_⟩
  · apply List.ext_getElem?
    intro i
    by_cases hi : i < c.slots.size
    · have := H i hi
      have e : c.slots[i]? = c.slots.toList[i]? := by simp
      rw [← e, this]
      have hi' : i < vs.length := by omega
      simp [List.getD, hi']
    · rw [List.getElem?_eq_none (by simpa using Nat.le_of_not_lt hi), List.getElem?_eq_none (by simp; omega)]
  · obtain ⟨i, hi, rfl⟩ := List.getElem_of_mem hv
    have := r4 i (by omega)
    simpa [List.getD, hi] using this
theorem Ary.set {x : Int32} {i : Nat} (F : Ary Z h a ty vs) (hi : i < vs.length) (hx : fits ty (.int x) = true) (Wq : Wr h h' a (Int32.ofNat i).toNatClampNeg (.int x)) : Ary Z h' a ty (vs.set i x) := by
  obtain ⟨c, A, r1, r2, r3⟩ := F
  refine ⟨c.setSlot (Int32.ofNat i).toNatClampNeg (.int x), A.same Wq, ?_, by simpa using r2, fun v hv => ?_⟩
  · rw [clamp_ofNat (by omega)]
    simp [Cell.setSlot, r1, List.map_set]
  · rcases List.mem_or_eq_of_mem_set hv with q | q
    · exact r3 v q
    · rw [q]; exact hx
theorem Ary.new {k : ClassId} {z : Int32} {n : Nat} (A : Arr Z h a (newA k ty z) ty) (hn : z.toNatClampNeg = n) (hb : n < 2147483648) (hd : defaultValue ty = .int 0) (hf : fits ty (.int 0) = true) : Ary Z h a ty (List.replicate n 0) := by
  refine ⟨_, A, by simp [newA, hn, hd], by simpa using hb, fun v hv => ?_⟩
  rw [(List.mem_replicate.mp hv).2]; exact hf
theorem Ary.ne_ty {ty' : FieldType} {vs' : List Int32} (F : Ary Z h a ty vs) (F' : Ary Z h b ty' vs') (q : ty ≠ ty') : a ≠ b := fun e => by
  subst e
  obtain ⟨c, ⟨A1, ⟨-, k, A2, comp, A3⟩, -⟩, -⟩ := F
  obtain ⟨c', ⟨B1, ⟨-, k', B2, comp', B3⟩, -⟩, -⟩ := F'
  cases A1.symm.trans B1
  cases A2.symm.trans B2
  rw [A3] at B3
  cases B3; exact q rfl
theorem Ary.safe {EL : List (String × Nat)} {vm : Vm} (hal : Z.vm.Alike vm) (F : Ary Z h a ty vs) (q : ty ≠ .byte) : Safe Z EL vm h a := by obtain ⟨c, A, -⟩ := F; exact Safe.arr hal A q
end AryFacts
theorem safe_nil {Z : State} {vm : Vm} {h : Heap} {x : Addr} : Safe Z [] vm h x := fun B => by obtain ⟨p, hp, -⟩ := B; cases hp
/-- where the walk stands: s the invocation's start, vm the tables of its last interning, Z the case's start -/
def W (κ : Cx) (l : Launch) (R : Room) (Z : State) (EL : List (String × Nat)) (own nm : String) (mx : Nat) (rt : Option FieldType) (vm : Vm) (T : State) (h : Heap) (k n : Nat) : Prop :=
  (κ.p.tables.exec = Jvm.exec ∧ κ.c.maxLocals = mx ∧ κ.M.sig.returnType = rt ∧ κ.M.locks = false ∧ κ.M.name = nm ∧ ∃ a0, EW Z a0 EL) ∧
  ∃ (locs : List Loc) (k0 : Nat), Stand κ.p l κ.e R (κ.s.setVm vm) κ.m κ.a κ.b κ.M κ.c T locs k n ∧ T.heap = h ∧ κ.s.Since vm k0 ∧ k0 ≤ h.size ∧ Z.Warmed39 vm ∧ vm.findClass own = some κ.m.cls ∧ Fr Z.heap.size locs ∧ CRn Z EL κ.s.vm κ.s.heap vm h
/-- what an invocation owes at its end -/
def GQ (κ : Cx) (Z : State) (EL : List (String × Nat)) (rm : Room) (Q : Option Value → Heap → (Addr → Prop) → Prop) : Option Value → State → Prop :=
  fun v B => ∃ L, (Q v B.heap (Safe Z EL B.vm B.heap) ∧ Fr Z.heap.size L) ∧ CRn Z EL κ.s.vm κ.s.heap B.vm B.heap ∧ ReturnedEndW κ.s (.returned v) B L rm.cells rm.slots
/-- a contract -/
def Ctr (l : Launch) (Z : State) (EL : List (String × Nat)) (y : MethodName) (bytes : ByteArray) (maxL : Nat) (ret : Option FieldType) (ws : List Jvm.Cond) (rm : Room) (sf : List Addr) (as' : Array Value) (h : Heap) (Q : Option Value → Heap → (Addr → Prop) → Prop) : Prop :=
  MetFree l y (head1 (Jvm.Cond.code y bytes maxL ret :: ws) rm) (fun a U => a = as' ∧ Z.Warmed39 U.vm ∧ U.heap = h ∧ CHv Z EL U.vm h ∧ ∀ x ∈ sf, Safe Z EL U.vm h x) (fun _ _ _ _ _ => True) (fun _ U o U' => ∃ v L, o = .returned v ∧ (Q v U'.heap (Safe Z EL U'.vm U'.heap) ∧ Fr Z.heap.size L) ∧ CRn Z EL U.vm U.heap U'.vm U'.heap ∧ ReturnedEndW U o U' L rm.cells rm.slots)
theorem enter {l : Launch} {Z : State} {EL : List (String × Nat)} {y : MethodName} {bytes : ByteArray} {maxL : Nat} {ret : Option FieldType} {ws : List Jvm.Cond} {rm : Room} {sf : List Addr} {as' : Array Value} {h : Heap} {Q : Option Value → Heap → (Addr → Prop) → Prop} {a0 : Array Value} (hpl : plainName y.cls = true) (hEL : EW Z a0 EL) {Ls : Array Slot} (hef : ∀ m, entryFrame m as' maxL = mkF m 0 Ls [])
    (body : ∀ (κ : Cx) (vm : Vm) (T : State), κ.c.code = bytes → κ.s.heap = h → W κ l rm Z EL y.cls y.name maxL ret vm T h 0 0 → (∀ x ∈ sf, Safe Z EL vm h x) → Go κ (GQ κ Z EL rm Q) T 0 Ls []) : Ctr l Z EL y bytes maxL ret ws rm sf as' h Q := by
  refine MetFree.of_bodySF (plainFor_of_name hpl) hisR ?_
  intro p e s m args below meth c s₁ Bd hml hP hK
  obtain ⟨rfl, hZ, hh, hC, hSf⟩ := hP
  have hown : s.vm.findClass y.cls = some m.cls := findClass_of_methodNamed Bd.named
  have hnm := (name_of_methodNamed Bd.named Bd.method).1
  have X0 : Stand p l e rm s m args below meth c s₁ [] 0 0 := Stand.of_body Bd
  have e0 : s₁.heap = h := by rw [← hh, Bd.state]; rfl
  have w : W (p, e, s, m, args, below, meth, c) l rm Z EL y.cls y.name maxL ret s.vm s₁ h 0 0 :=
    ⟨⟨Bd.exec, hml, Bd.returns, Bd.notSynchronized, hnm, a0, hEL⟩, [], s.heap.size, X0, e0, (State.WarmedH.refl s).since _, by rw [hh]; exact Nat.le_refl _, hZ, hown, Fr.nil _, by rw [hh]; exact CRn.refl hC⟩
  obtain ⟨v, B, h1, h2, h3, L, h4, h5, h6⟩ := body (p, e, s, m, args, below, meth, c) s.vm s₁ Bd.bytes hh w hSf
  refine ⟨B, .returned v, castTop (hef m) h1, h2, h3, v, L, rfl, h4, h5, h6⟩
section Laws
variable {κ : Cx} {l : Launch} {R : Room} {Z : State} {EL : List (String × Nat)} {own nm : String} {mx : Nat} {rt : Option FieldType} {vm : Vm} {T : State} {h : Heap} {k n : Nat} {G : Option Value → State → Prop} {a0 : Array Value} {pc : Nat} {Ls : Array Slot} {st : List Value}
theorem W.ok (w : W κ l R Z EL own nm mx rt vm T h k n) : Ok κ T := by obtain ⟨w1, _, _, X, -⟩ := w; exact ⟨X.here, w1.1⟩
theorem W.chv (w : W κ l R Z EL own nm mx rt vm T h k n) : CHv Z EL vm h := by obtain ⟨w1, _, _, X, -, -, -, -, -, -, C⟩ := w; exact C.1
theorem W.warm (w : W κ l R Z EL own nm mx rt vm T h k n) : Z.Warmed39 vm := by obtain ⟨w1, _, _, X, -, -, -, hZ, -⟩ := w; exact hZ
theorem W.alike (w : W κ l R Z EL own nm mx rt vm T h k n) : Z.vm.Alike vm := w.warm.alike
theorem W.mono (w : W κ l R Z EL own nm mx rt vm T h k n) {k' n' : Nat} (hk : k ≤ k') (hn : n ≤ n') : W κ l R Z EL own nm mx rt vm T h k' n' := by
  obtain ⟨w1, L, k0, X, r⟩ := w; exact ⟨w1, L, k0, X.mono hk hn, r⟩
theorem W.heap (w : W κ l R Z EL own nm mx rt vm T h k n) : T.heap = h := by obtain ⟨w1, _, _, X, e, -⟩ := w; exact e
/-- all that stood at the case's start stands as it was -/
theorem W.old (w : W κ l R Z EL own nm mx rt vm T h k n) (o : Ext Z.heap κ.s.heap) : Ext Z.heap h := by
  obtain ⟨w1, L, k0, X, e, -, -, -, -, N, -⟩ := w
  subst e
  refine ⟨Nat.le_trans o.1 X.same.2.1, fun b cl hb => ?_⟩
  obtain ⟨c', h1, h2, -, h4⟩ := X.same.2.2.2.2.2 b cl (o.2 _ _ hb)
  have hlt := (Array.getElem?_eq_some_iff.mp hb).1
  have hsl : c'.slots = cl.slots := Array.ext_getElem? fun i => h4 i fun hm => absurd (N _ hm) (Nat.not_le.mpr hlt)
  have hcc : c' = cl := by rw [h2, hsl]
  rw [← hcc]; exact h1
/-- a step that keeps vm: the heap only grows -/
theorem W.grow {T' : State} {h' : Heap} {k' n' : Nat} (w : W κ l R Z EL own nm mx rt vm T h k n) (E : Ext h h') (eT : T'.heap = h') (hX : ∀ locs, Stand κ.p l κ.e R (κ.s.setVm vm) κ.m κ.a κ.b κ.M κ.c T locs k n → Stand κ.p l κ.e R (κ.s.setVm vm) κ.m κ.a κ.b κ.M κ.c T' locs k' n') : W κ l R Z EL own nm mx rt vm T' h' k' n' := by
  obtain ⟨w1, L, k0, X, e, hS, hk, hZ, ho, N, C⟩ := w
  exact ⟨w1, L, k0, hX L X, eT, hS, Nat.le_trans hk E.1, hZ, ho, N, C.trans (CRn.ext E C.1)⟩
theorem W.wrote {T' : State} {h' : Heap} {a : Addr} {sl : Nat} {v : Value} {locs : List Loc} {k0 : Nat} (w : W κ l R Z EL own nm mx rt vm T h k n) (hS : κ.s.Since vm k0) (hk : k0 ≤ h.size) (N : Fr Z.heap.size locs) (X : Stand κ.p l κ.e R (κ.s.setVm vm) κ.m κ.a κ.b κ.M κ.c T' (locs ++ [⟨a, sl⟩]) k n) (eT : T'.heap = h') (Wq : Wr h h' a sl v) (S : Safe Z EL vm h a) (ha : Z.heap.size ≤ a) : W κ l R Z EL own nm mx rt vm T' h' k n := by
  obtain ⟨w1, -, -, -, -, -, -, hZ, ho, -, C⟩ := w
  exact ⟨w1, _, k0, X, eT, hS, by rw [Wq.size]; exact hk, hZ, ho, Fr.snoc X N ha, C.trans (CRn.wr Wq S C.1)⟩
theorem W.new (w : W κ l R Z EL own nm mx rt vm T h k n) {C : String} {index sz : Nat} (w1 : (Cond.classLink own index C).before a0 Z = true) (w2 : (Cond.instantiable C sz).before a0 Z = true) (w3 : (Cond.initialized C).before a0 Z = true)
    (hd : decode κ.c.code pc = .ok (.new index, 3)) (hc : k + 1 ≤ R.cells) (hl : n + sz ≤ R.slots)
    (g : ∀ (T' : State) (h' : Heap) (x : Addr), W κ l R Z EL own nm mx rt vm T' h' (k + 1) (n + sz) → x = h.size → Ext h h' → Exa Z h' x C → (∀ {O nm' d : String} {ty : FieldType}, Laid Z a0 C O nm' d → parseFieldDescriptor d = some ty → Fld Z h' x O nm' d (defaultValue ty)) → Safe Z EL vm h' x → Go κ G T' (pc + 3) Ls (.ref x :: st)) : Go κ G T pc Ls st := by
  have w0 := w
  obtain ⟨q1, L, k0, X, e, hS, hk, hZ, ho, N, CC⟩ := w
  obtain ⟨T', h', X', e', E, A, D, -, stp⟩ := newO X q1.1 hZ ho w1 w2 w3 e (g := mkF κ.m pc Ls st) rfl hd hc hl
  exact Fx.via stp (g T' h' h.size ⟨q1, L, k0, X', e', hS, Nat.le_trans hk E.1, hZ, ho, N, CC.trans (CRn.ext E CC.1)⟩ rfl E A D (Safe.ext E w0.chv (Safe.new (Nat.le_refl _))))
theorem W.newarr (w : W κ l R Z EL own nm mx rt vm T h k n) {aty : ArrayType} (w1 : (Cond.arrayClass (newarray.typeOf aty)).before a0 Z = true) {z : Int32} {c : Nat} (hd : decode κ.c.code pc = .ok (.newarray aty, 2)) (hn : ¬ z < 0) (hz : z.toNatClampNeg = c) {cap : Nat} (hcap : c ≤ cap) (hb : cap * 8 ≤ 536870912) (hc : k + 1 ≤ R.cells) (hl : n + cap ≤ R.slots) (hdv : defaultValue (newarray.typeOf aty) = .int 0) (hf : fits (newarray.typeOf aty) (.int 0) = true)
    (g : ∀ (T' : State) (h' : Heap) (x : Addr), W κ l R Z EL own nm mx rt vm T' h' (k + 1) (n + cap) → x = h.size → Ext h h' → Ary Z h' x (newarray.typeOf aty) (List.replicate c 0) → Safe Z EL vm h' x → Go κ G T' (pc + 2) Ls (.ref x :: st)) : Go κ G T pc Ls (.int z :: st) := by
  have w0 := w
  obtain ⟨q1, L, k0, X, e, hS, hk, hZ, ho, N, CC⟩ := w
  obtain ⟨T', h', cA, X', e', E, A, stp⟩ := newP X q1.1 hZ w1 e (g := mkF κ.m pc Ls (.int z :: st)) rfl hd rfl hn (by rw [hz]; exact hcap) hb hc hl
  exact Fx.via stp (g T' h' h.size ⟨q1, L, k0, X', e', hS, Nat.le_trans hk E.1, hZ, ho, N, CC.trans (CRn.ext E CC.1)⟩ rfl E (Ary.new A hz (by omega) hdv hf) (Safe.ext E w0.chv (Safe.new (Nat.le_refl _))))
theorem W.get (w : W κ l R Z EL own nm mx rt vm T h k n) {O f d : String} {index : Nat} (w1 : (Cond.fieldLink own index O f d).before a0 Z = true) {a : Addr} {v : Value} (F : Fld Z h a O f d v) (hd : decode κ.c.code pc = .ok (.getfield index, 3))
    (g : ∀ T' : State, W κ l R Z EL own nm mx rt vm T' h k n → Go κ G T' (pc + 3) Ls (v :: st)) : Go κ G T pc Ls (.ref a :: st) := by
  obtain ⟨q1, L, k0, X, e, hS, hk, hZ, ho, N, CC⟩ := w
  obtain ⟨T', X', e', stp⟩ := getF X q1.1 hZ ho (host := "") (Or.inl w1) Via.refl e F (g := mkF κ.m pc Ls (.ref a :: st)) rfl rfl hd
  exact Fx.via stp (g T' ⟨q1, L, k0, X', e', hS, hk, hZ, ho, N, CC⟩)
theorem W.gets (w : W κ l R Z EL own nm mx rt vm T h k n) {O f d : String} {index : Nat} (w1 : (Cond.fieldLink own index O f d).before a0 Z = true) {v : Value} (F : Sta Z h O f d v) (hd : decode κ.c.code pc = .ok (.getstatic index, 3))
    (g : ∀ T' : State, W κ l R Z EL own nm mx rt vm T' h k n → Go κ G T' (pc + 3) Ls (v :: st)) : Go κ G T pc Ls st := by
  obtain ⟨q1, L, k0, X, e, hS, hk, hZ, ho, N, CC⟩ := w
  obtain ⟨T', X', e', stp⟩ := getS X q1.1 hZ ho (host := "") w1 Via.refl e F (g := mkF κ.m pc Ls st) rfl hd
  exact Fx.via stp (g T' ⟨q1, L, k0, X', e', hS, hk, hZ, ho, N, CC⟩)
theorem W.put (w : W κ l R Z EL own nm mx rt vm T h k n) {O f d C : String} {index kk : Nat} {ty : FieldType} (w1 : (Cond.fieldLink own index O f d).before a0 Z = true) {a : Addr} {v old : Value} (F : Fld Z h a O f d old) (E : Exa Z h a C) (Lw : (Cond.lays C O f d).before a0 Z = true ∨ ((Cond.laysFinal C O f d).before a0 Z = true ∧ own = O ∧ nm = "<init>")) (wi : (Cond.instantiable C kk).before a0 Z = true)
    (hty : parseFieldDescriptor d = some ty) (hn : narrow ty v = v) (hf : fits ty v = true) (S : Safe Z EL vm h a) (ha : Z.heap.size ≤ a) (hd : decode κ.c.code pc = .ok (.putfield index, 3))
    (g : ∀ (T' : State) (h' : Heap), W κ l R Z EL own nm mx rt vm T' h' k n → Wr h h' a (RoadKit.slotOf Z O f d) v → Safe Z EL vm h' a → Go κ G T' (pc + 3) Ls st) : Go κ G T pc Ls (v :: .ref a :: st) := by
  have w0 := w
  obtain ⟨q1, L, k0, X, e, hS, hk, hZ, ho, N, CC⟩ := w
  obtain ⟨T', h', X', e', Wq, stp⟩ := putF X q1.1 hZ ho (host := "") (Or.inl w1) Via.refl e F E (Lw.imp id fun q => ⟨q.1, q.2.1, by rw [q1.2.2.2.2.1]; exact q.2.2⟩) wi hty hn hf (g := mkF κ.m pc Ls (v :: .ref a :: st)) rfl rfl hd
  exact Fx.via stp (g T' h' (w0.wrote hS hk N X' e' Wq S ha) Wq (Safe.wr Wq S w0.chv S))
theorem W.cst (w : W κ l R Z EL own nm mx rt vm T h k n) {a : Addr} {vs : List Int32} (A : Ary Z h a .char vs) {i : Nat} {j x x' : Int32} (hj : j = Int32.ofNat i) (hi : i < vs.length) (hx : nar .char x = x') (hf : fits .char (.int x') = true) (ha : Z.heap.size ≤ a) (hd : decode κ.c.code pc = .ok (.castore, 1))
    (g : ∀ (T' : State) (h' : Heap), W κ l R Z EL own nm mx rt vm T' h' k n → (∃ sl v, Wr h h' a sl v) → Ary Z h' a .char (vs.set i x') → Go κ G T' (pc + 1) Ls st) : Go κ G T pc Ls (.int x :: .int j :: .ref a :: st) := by
  have w0 := w
  have A0 := A
  subst hj hx
  obtain ⟨q1, L, k0, X, e, hS, hk, hZ, ho, N, CC⟩ := w
  obtain ⟨c, A1, r1, r2, -⟩ := A
  obtain ⟨T', h', X', e', Wq, stp⟩ := stC X q1.1 hZ e A1 (Ary.inb r1 r2 hi) (g := mkF κ.m pc Ls (.int x :: .int (Int32.ofNat i) :: .ref a :: st)) rfl rfl hd
  exact Fx.via stp (g T' h' (w0.wrote hS hk N X' e' Wq (A0.safe w0.alike (by decide)) ha) ⟨_, _, Wq⟩ (A0.set hi hf Wq))
theorem W.bst (w : W κ l R Z EL own nm mx rt vm T h k n) {a : Addr} {vs : List Int32} (A : Ary Z h a .byte vs) {i : Nat} {j x x' : Int32} (hj : j = Int32.ofNat i) (hi : i < vs.length) (hx : nar .byte x = x') (hf : fits .byte (.int x') = true) (S : Safe Z EL vm h a) (ha : Z.heap.size ≤ a) (hd : decode κ.c.code pc = .ok (.bastore, 1))
    (g : ∀ (T' : State) (h' : Heap), W κ l R Z EL own nm mx rt vm T' h' k n → (∃ sl v, Wr h h' a sl v) → Ary Z h' a .byte (vs.set i x') → Safe Z EL vm h' a → Go κ G T' (pc + 1) Ls st) : Go κ G T pc Ls (.int x :: .int j :: .ref a :: st) := by
  have w0 := w
  have A0 := A
  subst hj hx
  obtain ⟨q1, L, k0, X, e, hS, hk, hZ, ho, N, CC⟩ := w
  obtain ⟨c, A1, r1, r2, -⟩ := A
  obtain ⟨T', h', X', e', Wq, stp⟩ := stB X q1.1 hZ e A1 (Ary.inb r1 r2 hi) (g := mkF κ.m pc Ls (.int x :: .int (Int32.ofNat i) :: .ref a :: st)) rfl rfl hd
  exact Fx.via stp (g T' h' (w0.wrote hS hk N X' e' Wq S ha) ⟨_, _, Wq⟩ (A0.set hi hf Wq) (Safe.wr Wq S w0.chv S))
theorem W.ist (w : W κ l R Z EL own nm mx rt vm T h k n) {a : Addr} {vs : List Int32} (A : Ary Z h a .int vs) {i : Nat} {j x : Int32} (hj : j = Int32.ofNat i) (hi : i < vs.length) (ha : Z.heap.size ≤ a) (hd : decode κ.c.code pc = .ok (.iastore, 1))
    (g : ∀ (T' : State) (h' : Heap), W κ l R Z EL own nm mx rt vm T' h' k n → (∃ sl v, Wr h h' a sl v) → Ary Z h' a .int (vs.set i x) → Go κ G T' (pc + 1) Ls st) : Go κ G T pc Ls (.int x :: .int j :: .ref a :: st) := by
  have w0 := w
  have A0 := A
  subst hj
  obtain ⟨q1, L, k0, X, e, hS, hk, hZ, ho, N, CC⟩ := w
  obtain ⟨c, A1, r1, r2, -⟩ := A
  obtain ⟨T', h', X', e', Wq, stp⟩ := stI X q1.1 hZ e A1 (Ary.inb r1 r2 hi) (g := mkF κ.m pc Ls (.int x :: .int (Int32.ofNat i) :: .ref a :: st)) rfl rfl hd
  exact Fx.via stp (g T' h' (w0.wrote hS hk N X' e' Wq (A0.safe w0.alike (by decide)) ha) ⟨_, _, Wq⟩ (A0.set hi rfl Wq))
theorem W.len (w : W κ l R Z EL own nm mx rt vm T h k n) {a : Addr} {ty : FieldType} {vs : List Int32} (A : Ary Z h a ty vs) (hd : decode κ.c.code pc = .ok (.arraylength, 1)) (g : Go κ G T (pc + 1) Ls (.int (Int32.ofNat vs.length) :: st)) : Go κ G T pc Ls (.ref a :: st) := by
  obtain ⟨q1, L, k0, X, e, hS, hk, hZ, ho, N, CC⟩ := w
  obtain ⟨c, A1, r1, r2, -⟩ := A
  have hz : c.slots.size = vs.length := by
    have := congrArg List.length r1
    simpa using this
  refine Fx.via (fun t z => X.arraylength q1.1 (cell := c) (by rw [e]; exact A1.1) (State.isArrayOf_alike hZ.alike A1.2.1) (g := mkF κ.m pc Ls (.ref a :: st)) rfl rfl hd t ?_) g
  rw [hz]; exact z
theorem W.cld (w : W κ l R Z EL own nm mx rt vm T h k n) {a : Addr} {vs : List Int32} (A : Ary Z h a .char vs) {i : Nat} {j x : Int32} (hj : j = Int32.ofNat i) (hx : vs[i]? = some x) (hd : decode κ.c.code pc = .ok (.caload, 1)) (g : Go κ G T (pc + 1) Ls (.int x :: st)) : Go κ G T pc Ls (.int j :: .ref a :: st) := by
  subst hj
  obtain ⟨q1, L, k0, X, e, hS, hk, hZ, ho, N, CC⟩ := w
  obtain ⟨c, A1, r1, r2, -⟩ := A
  have hi : i < vs.length := (List.getElem?_eq_some_iff.mp hx).1
  exact Fx.via (fun t z => X.caload q1.1 (cell := c) (by rw [e]; exact A1.1) (State.isArrayOf_alike hZ.alike A1.2.1) A1.2.2 (Ary.inb r1 r2 hi) (Ary.at r1 r2 hi hx) (g := mkF κ.m pc Ls (.int (Int32.ofNat i) :: .ref a :: st)) rfl rfl hd t z) g
theorem W.bld (w : W κ l R Z EL own nm mx rt vm T h k n) {a : Addr} {vs : List Int32} (A : Ary Z h a .byte vs) {i : Nat} {j x : Int32} (hj : j = Int32.ofNat i) (hx : vs[i]? = some x) (hd : decode κ.c.code pc = .ok (.baload, 1)) (g : Go κ G T (pc + 1) Ls (.int x :: st)) : Go κ G T pc Ls (.int j :: .ref a :: st) := by
  subst hj
  obtain ⟨q1, L, k0, X, e, hS, hk, hZ, ho, N, CC⟩ := w
  obtain ⟨c, A1, r1, r2, -⟩ := A
  have hi : i < vs.length := (List.getElem?_eq_some_iff.mp hx).1
  exact Fx.via (fun t z => X.baloadBytes q1.1 (cell := c) (by rw [e]; exact A1.1) (State.isArrayOf_alike hZ.alike A1.2.1) A1.2.2 (Ary.inb r1 r2 hi) (Ary.at r1 r2 hi hx) (g := mkF κ.m pc Ls (.int (Int32.ofNat i) :: .ref a :: st)) rfl rfl hd t z) g
theorem W.ild (w : W κ l R Z EL own nm mx rt vm T h k n) {a : Addr} {vs : List Int32} (A : Ary Z h a .int vs) {i : Nat} {j x : Int32} (hj : j = Int32.ofNat i) (hx : vs[i]? = some x) (hd : decode κ.c.code pc = .ok (.iaload, 1)) (g : Go κ G T (pc + 1) Ls (.int x :: st)) : Go κ G T pc Ls (.int j :: .ref a :: st) := by
  subst hj
  obtain ⟨q1, L, k0, X, e, hS, hk, hZ, ho, N, CC⟩ := w
  obtain ⟨c, A1, r1, r2, -⟩ := A
  have hi : i < vs.length := (List.getElem?_eq_some_iff.mp hx).1
  exact Fx.via (fun t z => X.iaload q1.1 (cell := c) (by rw [e]; exact A1.1) (State.isArrayOf_alike hZ.alike A1.2.1) A1.2.2 (Ary.inb r1 r2 hi) (Ary.at r1 r2 hi hx) (g := mkF κ.m pc Ls (.int (Int32.ofNat i) :: .ref a :: st)) rfl rfl hd t z) g
theorem W.ldcI (w : W κ l R Z EL own nm mx rt vm T h k n) {index : Nat} {v : Int32} (w1 : (Cond.constant own index v).before a0 Z = true) (hd : decode κ.c.code pc = .ok (.ldc index, 2)) (g : Go κ G T (pc + 2) Ls (.int v :: st)) : Go κ G T pc Ls st := by
  obtain ⟨q1, L, k0, X, e, hS, hk, hZ, ho, N, CC⟩ := w
  exact Fx.via (fun t z => Stand.ldcI X q1.1 ho (mv (s := κ.s.setVm vm) hZ w1) (g := mkF κ.m pc Ls st) rfl hd z) g
theorem W.initO (w : W κ l R Z EL own nm mx rt vm T h k n) {idx : Nat} (w1 : (Cond.methodLink own idx Lib.objectInit).before a0 Z = true) (w2 : (Cond.instanceMethod Lib.objectInit).before a0 Z = true) (w3 : (Cond.code Lib.objectInit ⟨#[0xb1]⟩ 1 none).before a0 Z = true) {a : Addr} (hsz : Ls.size = mx) (hd : decode κ.c.code pc = .ok (.invokespecial idx, 3)) (hf : 1 ≤ R.frames) {Wd : Nat} (hW : (st.map fun v => v.category).sum ≤ Wd) (hl : Wd + 12 ≤ R.locals)
    (g : ∀ T' : State, W κ l R Z EL own nm mx rt vm T' h k n → Go κ G T' (pc + 3) Ls st) : Go κ G T pc Ls (.ref a :: st) := by
  obtain ⟨q1, L, k0, X, e, hS, hk, hZ, ho, N, CC⟩ := w
  obtain ⟨T', X', e', stp⟩ := RoadKit.initO X q1.1 hZ ho w1 w2 w3 e (g := mkF κ.m pc Ls (.ref a :: st)) rfl (by rw [q1.2.1]; exact hsz) rfl hd hf (W := Wd) (by show 2 * 0 + _ ≤ _; omega) hl
  exact Fx.via stp (g T' ⟨q1, L, k0, X', e', hS, hk, hZ, ho, N, CC⟩)
/-- what a call asks of its callee -/
abbrev BB (κ : Cx) (l : Launch) (R : Room) (Z : State) (EL : List (String × Nat)) (vm : Vm) (h : Heap) (y : MethodName) (len Wd : Nat) (as' : Array Value) (rc rs : Nat) (Q : Option Value → Heap → (Addr → Prop) → Prop) : Prop :=
  BackS l R κ.p κ.e κ.b (κ.s.setVm vm) κ.a y len Wd (fun A a => a = as' ∧ A.U.heap = h ∧ A.cells + rc ≤ R.cells ∧ A.slots + rs ≤ R.slots)
      (fun A _ v B => ∃ L, (Q v B.U.heap (Safe Z EL B.U.vm B.U.heap) ∧ Fr Z.heap.size L) ∧ B.locs = A.locs ++ L ∧ B.cells = A.cells + rc ∧ B.slots = A.slots + rs ∧ CRn Z EL vm h B.U.vm B.U.heap)
theorem Ctr.pays {y : MethodName} {bytes : ByteArray} {maxL : Nat} {ret : Option FieldType} {rm : Room} {sf : List Addr} {as' : Array Value} {Q : Option Value → Heap → (Addr → Prop) → Prop} {len Wd : Nat} (C : Ctr l Z EL y bytes maxL ret [] rm sf as' h Q) (w : W κ l R Z EL own nm mx rt vm T h k n)
    (wc : (Cond.code y bytes maxL ret).before a0 Z = true) (wz : (Cond.initialized y.cls).before a0 Z = true) (hEL : EW Z a0 EL) (hf : rm.frames + 1 ≤ R.frames) (hl : Wd + (maxL + 11) + rm.locals ≤ R.locals) (hsf : ∀ x ∈ sf, x < h.size ∧ Safe Z EL vm h x) : BB κ l R Z EL vm h y len Wd as' rm.cells rm.slots Q :=
  BackS.of_freeW (bytes := bytes) (maxL := maxL) (ret := ret) (E := fun _ first o t L k n => k = rm.cells ∧ n = rm.slots ∧ (∃ v, o = .returned v ∧ (Q v t.heap (Safe Z EL t.vm t.heap) ∧ Fr Z.heap.size L)) ∧ CRn Z EL first.vm first.heap t.vm t.heap) C hf hl
    (fun m meth c A a Y hp => have hU : Z.Warmed39 A.U.vm := wtrans (s := κ.s.setVm vm) w.warm Y.warmed
      ⟨by show (Cond.and _ .tt).before a A.U = true; rw [Cond.before_and, mv hU wc]; rfl, mv hU wc, mv hU wz, hp.2.2.1, hp.2.2.2⟩)
    (fun m meth c A a g mk Y hp => ⟨hp.1, wtrans (s := κ.s.setVm vm) w.warm Y.warmed, hp.2.1, (CRn.at Y w.warm hEL w.chv).1, fun x hx => (CRn.at Y w.warm hEL w.chv).safe (hsf x hx).1 (hsf x hx).2⟩) (fun _ _ _ _ _ _ _ _ _ => trivial)
    (fun _ _ _ _ ⟨v, L, h1, h2, h3, h4⟩ => ⟨L, _, _, h4, rfl, rfl, ⟨v, h1, h2⟩, h3⟩)
    (fun m meth c A a g mk v t L k n Y hp _ _ ⟨e1, e2, ⟨v', e3, e4⟩, e5⟩ => by
      cases e3; subst e1 e2
      refine ⟨L, e4, rfl, rfl, rfl, (CRn.at Y w.warm hEL w.chv).trans ?_⟩
      rw [← hp.2.1]; exact e5)
theorem sfNil {vm : Vm} {h : Heap} : ∀ x ∈ ([] : List Addr), x < h.size ∧ Safe Z EL vm h x := fun _ q => nomatch q
theorem sfOne {vm : Vm} {h : Heap} {a : Addr} (h1 : a < h.size) (h2 : Safe Z EL vm h a) : ∀ x ∈ [a], x < h.size ∧ Safe Z EL vm h x := fun x q => by rw [List.mem_singleton.mp q]; exact ⟨h1, h2⟩
/-- a narrow payer (it interns nothing, and writes at most ws of what was there) -/
theorem BB.of_back {y : MethodName} {len Wd : Nat} {as' : Array Value} {rc rs : Nat} {Q0 : Option Value → Heap → List Loc → Prop} {Q : Option Value → Heap → (Addr → Prop) → Prop} (w : W κ l R Z EL own nm mx rt vm T h k n) (hEL : EW Z a0 EL)
    (hB : Back l R κ.p κ.e κ.b (κ.s.setVm vm) κ.a y len Wd (fun A a => a = as' ∧ A.U.heap = h ∧ A.cells + rc ≤ R.cells ∧ A.slots + rs ≤ R.slots) (fun A _ v B => ∃ L, Q0 v B.U.heap L ∧ B.locs = A.locs ++ L ∧ B.cells = A.cells + rc ∧ B.slots = A.slots + rs)) {ws : List Addr} (hs : ∀ x ∈ ws, Safe Z EL vm h x)
    (hQ : ∀ v h' L S, Q0 v h' L → Q v h' S ∧ Fr Z.heap.size L ∧ Keep h h' ws) : BB κ l R Z EL vm h y len Wd as' rc rs Q := by
  intro m meth c A g ig mk a X hg hsize hdg hW hn hp
  obtain ⟨v, B, X', ⟨L, h1, h2, h3, h4⟩, hsteps⟩ := hB m meth c A g ig mk a X hg hsize hdg hW hn hp
  obtain ⟨q1, q2, q3⟩ := hQ v B.U.heap L (Safe Z EL B.U.vm B.U.heap) h1
  refine ⟨v, B, X'.retabled X'.warmed.wide, X'.warmed.since _, by rw [hp.2.1]; exact q3.1, ⟨L, ⟨q1, q2⟩, h2, h3, h4, ?_⟩, hsteps⟩
  exact (CRn.keep q3 hs w.chv).trans (CRn.at X' w.warm hEL (w.chv.keep q3 hs))
theorem W.back (w : W κ l R Z EL own nm mx rt vm T h k n) {T' : State} {locs L : List Loc} {k' n' : Nat} (hk0 : ∃ k0, κ.s.Since vm k0 ∧ k0 ≤ h.size) (N : Fr Z.heap.size locs) (X' : Stand κ.p l κ.e R ((κ.s.setVm vm).setVm T'.vm) κ.m κ.a κ.b κ.M κ.c T' (locs ++ L) k' n') (hS : (κ.s.setVm vm).Since T'.vm T'.heap.size) (hgr : h.size ≤ T'.heap.size) (NL : Fr Z.heap.size L) (C : CRn Z EL vm h T'.vm T'.heap) : W κ l R Z EL own nm mx rt T'.vm T' T'.heap k' n' := by
  obtain ⟨w1, -, -, -, -, -, -, hZ, ho, -, CC⟩ := w
  obtain ⟨k0, hS0, hk⟩ := hk0
  obtain ⟨Y, hS', hZ', ho'⟩ := rebS (own := own) hS0 hk X' hS hgr hZ ho
  exact ⟨w1, _, _, Y, rfl, hS', Nat.le_refl _, hZ', ho', N.app NL, CC.trans C⟩
theorem W.callS (w : W κ l R Z EL own nm mx rt vm T h k n) {y : MethodName} {bytes : ByteArray} {maxL : Nat} {ret : Option FieldType} {index : Nat} (w1 : (Cond.methodLink own index y).before a0 Z = true) (w2 : (Cond.static y).before a0 Z = true) (w3 : (Cond.initialized y.cls).before a0 Z = true) (w4 : (Cond.code y bytes maxL ret).before a0 Z = true) (hy : y.cls ≠ "java/lang/invoke/MethodHandle" ∧ y.cls ≠ "java/lang/invoke/VarHandle")
    {argsL : List Value} {rc rs Wd : Nat} {Q : Option Value → Heap → (Addr → Prop) → Prop} (hK : BB κ l R Z EL vm h y 3 Wd argsL.toArray rc rs Q) {ps : List FieldType} {r0 : Option FieldType} (hde : parseMethodDescriptor y.desc = some ⟨ps, r0⟩) (hlen : argsL.length = ps.length) {st0 : List Value} (hst : st0 = argsL.reverse ++ st) (hsz : Ls.size = mx) (hW : (st.map fun v => v.category).sum ≤ Wd) (hd : decode κ.c.code pc = .ok (.invokestatic index, 3)) (hc : k + rc ≤ R.cells) (hl : n + rs ≤ R.slots)
    (g : ∀ (vm' : Vm) (T' : State) (h' : Heap) (v : Option Value), W κ l R Z EL own nm mx rt vm' T' h' (k + rc) (n + rs) → CRn Z EL vm h vm' h' → Q v h' (Safe Z EL vm' h') → Go κ G T' (pc + 3) Ls (v.toList ++ st)) : Go κ G T pc Ls st0 := by
  have w0 := w
  subst hst
  obtain ⟨q1, L, k0, X, e, hS, hk, hZ, ho, N, CC⟩ := w
  obtain ⟨v, vm₁, ⟨T', L', k', n'⟩, -, X', hS', hgr, ⟨L2, ⟨hQ, NL⟩, p1, p2, p3, p4⟩, stp⟩ := callSS X q1.1 ho (mvT (s := κ.s.setVm vm) hZ w1) (mvT (s := κ.s.setVm vm) hZ w2) (mvT (s := κ.s.setVm vm) hZ w3) (mvT (s := κ.s.setVm vm) hZ w4) hy hK (g := mkF κ.m pc Ls (argsL.reverse ++ st)) rfl (by rw [q1.2.1]; exact hsz) (argsL := argsL) (rest := st) (lenOf hde hlen) rfl (by show 2 * 0 + _ ≤ _; omega) hd (fun _ _ => ⟨rfl, e, hc, hl⟩)
  dsimp only [Pt.U, Pt.locs, Pt.cells, Pt.slots] at X' hS' hgr hQ p1 p2 p3 p4 stp
  subst p1 p2 p3
  exact Fx.after stp (g T'.vm T' T'.heap v (w0.back ⟨k0, hS, hk⟩ N X' hS' (by rw [← e]; exact hgr) NL p4) p4 hQ)
theorem W.callI (w : W κ l R Z EL own nm mx rt vm T h k n) {y : MethodName} {bytes : ByteArray} {maxL : Nat} {index : Nat} (hy1 : y.name = "<init>") (w1 : (Cond.methodLink own index y).before a0 Z = true) (w2 : (Cond.instanceMethod y).before a0 Z = true) (w4 : (Cond.code y bytes maxL none).before a0 Z = true) (hy : y.cls ≠ "java/lang/invoke/MethodHandle" ∧ y.cls ≠ "java/lang/invoke/VarHandle")
    {a : Addr} {argsL : List Value} {rc rs Wd : Nat} {Q : Option Value → Heap → (Addr → Prop) → Prop} (hK : BB κ l R Z EL vm h y 3 Wd (.ref a :: argsL).toArray rc rs Q) {ps : List FieldType} {r0 : Option FieldType} (hde : parseMethodDescriptor y.desc = some ⟨ps, r0⟩) (hlen : argsL.length = ps.length) {st0 : List Value} (hst : st0 = argsL.reverse ++ .ref a :: st) (hsz : Ls.size = mx) (hW : (st.map fun v => v.category).sum ≤ Wd) (hd : decode κ.c.code pc = .ok (.invokespecial index, 3)) (hc : k + rc ≤ R.cells) (hl : n + rs ≤ R.slots)
    (g : ∀ (vm' : Vm) (T' : State) (h' : Heap) (v : Option Value), W κ l R Z EL own nm mx rt vm' T' h' (k + rc) (n + rs) → CRn Z EL vm h vm' h' → Q v h' (Safe Z EL vm' h') → Go κ G T' (pc + 3) Ls (v.toList ++ st)) : Go κ G T pc Ls st0 := by
  have w0 := w
  subst hst
  obtain ⟨q1, L, k0, X, e, hS, hk, hZ, ho, N, CC⟩ := w
  obtain ⟨v, vm₁, ⟨T', L', k', n'⟩, -, X', hS', hgr, ⟨L2, ⟨hQ, NL⟩, p1, p2, p3, p4⟩, stp⟩ := X.specialBackS q1.1 hy1 ho (mvT (s := κ.s.setVm vm) hZ w1) (mvT (s := κ.s.setVm vm) hZ w2) (mvT (s := κ.s.setVm vm) hZ w4) hy hK (g := mkF κ.m pc Ls (argsL.reverse ++ .ref a :: st)) rfl (by rw [q1.2.1]; exact hsz) (Steps.refl _) (a := a) (argsL := argsL) (rest := st) (lenOf hde hlen) rfl (by show 2 * 0 + _ ≤ _; omega) hd (fun _ _ => ⟨rfl, e, hc, hl⟩)
  dsimp only [Pt.U, Pt.locs, Pt.cells, Pt.slots] at X' hS' hgr hQ p1 p2 p3 p4 stp
  subst p1 p2 p3
  exact Fx.after stp (g T'.vm T' T'.heap v (w0.back ⟨k0, hS, hk⟩ N X' hS' (by rw [← e]; exact hgr) NL p4) p4 hQ)
theorem W.callV (w : W κ l R Z EL own nm mx rt vm T h k n) {y z : MethodName} {C : String} {index : Nat} (w1 : (Cond.methodLink own index y).before a0 Z = true) (w2 : (Cond.declares y).before a0 Z = true) (hnf : ∀ s : State, Z.Warmed39 s.vm → NotFace s y) (w3 : (Cond.selects C y z).before a0 Z = true) (w4 : (Cond.instanceMethod z).before a0 Z = true) (hy : y.cls ≠ "java/lang/invoke/MethodHandle" ∧ y.cls ≠ "java/lang/invoke/VarHandle")
    {a : Addr} (E : Exa Z h a C) {argsL : List Value} {rc rs Wd : Nat} {Q : Option Value → Heap → (Addr → Prop) → Prop} (hK : BB κ l R Z EL vm h z 3 Wd (.ref a :: argsL).toArray rc rs Q) {ps : List FieldType} {r0 : Option FieldType} (hde : parseMethodDescriptor y.desc = some ⟨ps, r0⟩) (hlen : argsL.length = ps.length) {st0 : List Value} (hst : st0 = argsL.reverse ++ .ref a :: st) (hsz : Ls.size = mx) (hW : (st.map fun v => v.category).sum ≤ Wd) (hd : decode κ.c.code pc = .ok (.invokevirtual index, 3)) (hc : k + rc ≤ R.cells) (hl : n + rs ≤ R.slots)
    (g : ∀ (vm' : Vm) (T' : State) (h' : Heap) (v : Option Value), W κ l R Z EL own nm mx rt vm' T' h' (k + rc) (n + rs) → CRn Z EL vm h vm' h' → Q v h' (Safe Z EL vm' h') → Go κ G T' (pc + 3) Ls (v.toList ++ st)) : Go κ G T pc Ls st0 := by
  have w0 := w
  subst hst
  obtain ⟨q1, L, k0, X, e, hS, hk, hZ, ho, N, CC⟩ := w
  obtain ⟨cB, kB, i1, i2, i3⟩ := isOf (s := κ.s.setVm vm) hZ e E
  obtain ⟨v, vm₁, ⟨T', L', k', n'⟩, -, X', hS', hgr, ⟨L2, ⟨hQ, NL⟩, p1, p2, p3, p4⟩, stp⟩ := X.virtualBackS q1.1 ho (mvT (s := κ.s.setVm vm) hZ w1) (mvT (s := κ.s.setVm vm) hZ w2) (hnf (κ.s.setVm vm) hZ) (mvT (s := κ.s.setVm vm) hZ w3) (mvT (s := κ.s.setVm vm) hZ w4) hy hK i1 i3 (g := mkF κ.m pc Ls (argsL.reverse ++ .ref a :: st)) rfl (by rw [q1.2.1]; exact hsz) (Steps.refl _) (argsL := argsL) (rest := st) (lenOf hde hlen) rfl (by show 2 * 0 + _ ≤ _; omega) hd (fun _ _ => ⟨rfl, e, hc, hl⟩)
  dsimp only [Pt.U, Pt.locs, Pt.cells, Pt.slots] at X' hS' hgr hQ p1 p2 p3 p4 stp
  subst p1 p2 p3
  exact Fx.after stp (g T'.vm T' T'.heap v (w0.back ⟨k0, hS, hk⟩ N X' hS' (by rw [← e]; exact hgr) NL p4) p4 hQ)
theorem notFace {y : MethodName} {C : String} (w3 : (Cond.selects C y y).before a0 Z = true) : ∀ s : State, Z.Warmed39 s.vm → NotFace s y := fun s hZ => notFace_of_selects (args := #[]) (mvT hZ w3)
theorem W.instY (w : W κ l R Z EL own nm mx rt vm T h k n) {K : String} {index : Nat} (w1 : (Cond.classLink own index K).before a0 Z = true) {a : Addr} (F : Ins Z h a K true) (hd : decode κ.c.code pc = .ok (.instanceof index, 3))
    (g : ∀ T' : State, W κ l R Z EL own nm mx rt vm T' h k n → Go κ G T' (pc + 3) Ls (.int 1 :: st)) : Go κ G T pc Ls (.ref a :: st) := by
  obtain ⟨q1, L, k0, X, e, hS, hk, hZ, ho, N, CC⟩ := w
  obtain ⟨T', X', e', stp⟩ := RoadKit.instY X q1.1 hZ ho w1 e F (g := mkF κ.m pc Ls (.ref a :: st)) rfl rfl hd
  exact Fx.via stp (g T' ⟨q1, L, k0, X', e', hS, hk, hZ, ho, N, CC⟩)
theorem W.castY (w : W κ l R Z EL own nm mx rt vm T h k n) {K : String} {index : Nat} (w1 : (Cond.classLink own index K).before a0 Z = true) {a : Addr} (F : Ins Z h a K true) (hd : decode κ.c.code pc = .ok (.checkcast index, 3))
    (g : ∀ T' : State, W κ l R Z EL own nm mx rt vm T' h k n → Go κ G T' (pc + 3) Ls (.ref a :: st)) : Go κ G T pc Ls (.ref a :: st) := by
  obtain ⟨q1, L, k0, X, e, hS, hk, hZ, ho, N, CC⟩ := w
  obtain ⟨T', X', e', stp⟩ := RoadKit.castY X q1.1 hZ ho w1 e F (g := mkF κ.m pc Ls (.ref a :: st)) rfl rfl hd
  exact Fx.via stp (g T' ⟨q1, L, k0, X', e', hS, hk, hZ, ho, N, CC⟩)
theorem W.acmp (w : W κ l R Z EL own nm mx rt vm T h k n) {o : Int} {pc' : Nat} {a b : Addr} (hd : decode κ.c.code pc = .ok (.if_acmp .ne o, 3)) (ho : 0 ≤ (pc : Int) + o) (hp : ((pc : Int) + o).toNat = pc') (hT : ¬ a = b → Go κ G T pc' Ls st) (hF : a = b → Go κ G T (pc + 3) Ls st) : Go κ G T pc Ls (.ref b :: .ref a :: st) := by
  obtain ⟨q1, L, k0, X, e, hS, hk, hZ, ho', N, CC⟩ := w
  by_cases q : a = b
  · exact Fx.via (fun t z => RoadKit.acmp X q1.1 rfl (cd := .ne) (x := .ref a) (y := .ref b) rfl rfl (same := true) rfl hd rfl (by simp [q]) ho (pc' := pc + 3) (by simp [acV]) z) (hF q)
  · exact Fx.via (fun t z => RoadKit.acmp X q1.1 rfl (cd := .ne) (x := .ref a) (y := .ref b) rfl rfl (same := false) rfl hd rfl (by simp [q]) ho (pc' := pc') (by simp [acV, hp]) z) (hT q)
theorem W.acmpE (w : W κ l R Z EL own nm mx rt vm T h k n) {o : Int} {pc' : Nat} {a b : Addr} (hd : decode κ.c.code pc = .ok (.if_acmp .eq o, 3)) (ho : 0 ≤ (pc : Int) + o) (hp : ((pc : Int) + o).toNat = pc') (hT : a = b → Go κ G T pc' Ls st) (hF : ¬ a = b → Go κ G T (pc + 3) Ls st) : Go κ G T pc Ls (.ref b :: .ref a :: st) := by
  obtain ⟨q1, L, k0, X, e, hS, hk, hZ, ho', N, CC⟩ := w
  by_cases q : a = b
  · exact Fx.via (fun t z => RoadKit.acmp X q1.1 rfl (cd := .eq) (x := .ref a) (y := .ref b) rfl rfl (same := true) rfl hd rfl (by simp [q]) ho (pc' := pc') (by simp [acV, hp]) z) (hT q)
  · exact Fx.via (fun t z => RoadKit.acmp X q1.1 rfl (cd := .eq) (x := .ref a) (y := .ref b) rfl rfl (same := false) rfl hd rfl (by simp [q]) ho (pc' := pc + 3) (by simp [acV]) z) (hF q)
/-- invokevirtual of a private method -/
theorem W.callP (w : W κ l R Z EL own nm mx rt vm T h k n) {y : MethodName} {bytes : ByteArray} {maxL : Nat} {ret : Option FieldType} {index : Nat} (w1 : (Cond.methodLink own index y).before a0 Z = true) (w2 : (Cond.instanceMethod y).before a0 Z = true) (hnf : ∀ s : State, Z.Warmed39 s.vm → NotFace s y) (w5 : (Cond.privateMethod y).before a0 Z = true) (w4 : (Cond.code y bytes maxL ret).before a0 Z = true) (hy : y.cls ≠ "java/lang/invoke/MethodHandle" ∧ y.cls ≠ "java/lang/invoke/VarHandle")
    {a : Addr} {C : String} (E : Exa Z h a C) {argsL : List Value} {rc rs Wd : Nat} {Q : Option Value → Heap → (Addr → Prop) → Prop} (hK : BB κ l R Z EL vm h y 3 Wd (.ref a :: argsL).toArray rc rs Q) {ps : List FieldType} {r0 : Option FieldType} (hde : parseMethodDescriptor y.desc = some ⟨ps, r0⟩) (hlen : argsL.length = ps.length) {st0 : List Value} (hst : st0 = argsL.reverse ++ .ref a :: st) (hsz : Ls.size = mx) (hW : (st.map fun v => v.category).sum ≤ Wd) (hd : decode κ.c.code pc = .ok (.invokevirtual index, 3)) (hc : k + rc ≤ R.cells) (hl : n + rs ≤ R.slots)
    (g : ∀ (vm' : Vm) (T' : State) (h' : Heap) (v : Option Value), W κ l R Z EL own nm mx rt vm' T' h' (k + rc) (n + rs) → CRn Z EL vm h vm' h' → Q v h' (Safe Z EL vm' h') → Go κ G T' (pc + 3) Ls (v.toList ++ st)) : Go κ G T pc Ls st0 := by
  have w0 := w
  subst hst
  obtain ⟨q1, L, k0, X, e, hS, hk, hZ, ho, N, CC⟩ := w
  obtain ⟨cell, hcell, hob⟩ := E.cell
  have hinst : (Cond.instanceMethod y).before κ.a (κ.s.setVm vm) = true := mvT (s := κ.s.setVm vm) hZ w2
  have hcode : (Cond.code y bytes maxL ret).before κ.a (κ.s.setVm vm) = true := mvT (s := κ.s.setVm vm) hZ w4
  obtain ⟨mk, methM, hnamed, hmethM, hstM, habM⟩ := Cond.instanceMethod_spec hinst
  obtain ⟨methM', cM, hmethM', -, -, -, -, -, -, hsigM⟩ := Cond.code_spec hnamed hcode
  cases hmethM.symm.trans hmethM'
  obtain ⟨kP, hkP, hkPi⟩ := hnf (κ.s.setVm vm) hZ mk hnamed
  have hselP : selectMethod κ.e.platform (κ.s.setVm vm).vm cell.cls mk = .method mk := selectMethod_private hmethM (Cond.privateMethod_at (args := #[]) (mvP (s := κ.s.setVm vm) hZ w5) mk methM hnamed hmethM)
  obtain ⟨vm₁, X₁, hstep₁⟩ := X.invokevirtual q1.1 ho (mvT (s := κ.s.setVm vm) hZ w1) hnamed hmethM hstM hkP hkPi hy (a := a) (cell := cell) (by rw [e]; exact hcell) hob hselP hmethM habM hkP hkPi (g := mkF κ.m pc Ls (argsL.reverse ++ .ref a :: st)) rfl (argsL := argsL) (rest := st) (lenOf hde hlen _ hsigM) rfl hd
  obtain ⟨v, ⟨T', L', k', n'⟩, X', hS', hgr, ⟨L2, ⟨hQ, NL⟩, p1, p2, p3, p4⟩, hsteps⟩ := hK κ.m κ.M κ.c ⟨T.setVm vm₁, L, k, n⟩ (mkF κ.m pc Ls st) (.invokevirtual index) mk (.ref a :: argsL).toArray X₁ rfl (by show Ls.size = _; rw [q1.2.1]; exact hsz) hd (by show 2 * 0 + (st.map fun v => v.category).sum ≤ _; omega) (X₁.named hnamed) ⟨rfl, e, hc, hl⟩
  dsimp only [Pt.U, Pt.locs, Pt.cells, Pt.slots] at X' hS' hgr hQ p1 p2 p3 p4 hsteps
  subst p1 p2 p3
  have stp := (hstep₁ _ fun acts => by rw [doInvoke_state]; exact Steps.refl _).trans hsteps
  exact Fx.after stp (g T'.vm T' T'.heap v (w0.back ⟨k0, hS, hk⟩ N X' hS' (by rw [← e]; exact hgr) NL p4) p4 hQ)
theorem notFaceAs {y y' : MethodName} {C : String} (hc : y.cls = y'.cls) (w3 : (Cond.selects C y' y').before a0 Z = true) (w4 : (Cond.instanceMethod y').before a0 Z = true) : ∀ s : State, Z.Warmed39 s.vm → NotFace s y := fun s hZ r0 h0 => by
  have hi : (Cond.instanceMethod y').before #[] s = true := mvT hZ w4
  obtain ⟨mk, methM, hnamed, -⟩ := Cond.instanceMethod_spec hi
  obtain ⟨kr, h1, h2⟩ := notFace (a0 := a0) w3 s hZ mk hnamed
  have e1 := findClass_of_methodNamed h0
  have e2 := findClass_of_methodNamed hnamed
  rw [hc] at e1
  have e3 := Option.some.inj (e1.symm.trans e2)
  exact ⟨kr, by rw [e3]; exact h1, h2⟩
/-- invokevirtual of a method that a superclass declares -/
theorem W.callUp (w : W κ l R Z EL own nm mx rt vm T h k n) {y z : MethodName} {C owner : String} {index : Nat} (w1 : (Cond.methodLink own index y).before a0 Z = true) (w2 : (Cond.sameMethod y.cls owner y.name y.desc).before a0 Z = true) (w3 : (Cond.declares ⟨owner, y.name, y.desc⟩).before a0 Z = true) (hy : owner ≠ "java/lang/invoke/MethodHandle" ∧ owner ≠ "java/lang/invoke/VarHandle") (w4 : (Cond.selects C y z).before a0 Z = true) (w5 : (Cond.instanceMethod z).before a0 Z = true)
    {a : Addr} (E : Exa Z h a C) {argsL : List Value} {rc rs Wd : Nat} {Q : Option Value → Heap → (Addr → Prop) → Prop} (hK : BB κ l R Z EL vm h z 3 Wd (.ref a :: argsL).toArray rc rs Q) {ps : List FieldType} {r0 : Option FieldType} (hde : parseMethodDescriptor y.desc = some ⟨ps, r0⟩) (hlen : argsL.length = ps.length) {st0 : List Value} (hst : st0 = argsL.reverse ++ .ref a :: st) (hsz : Ls.size = mx) (hW : (st.map fun v => v.category).sum ≤ Wd) (hd : decode κ.c.code pc = .ok (.invokevirtual index, 3)) (hc : k + rc ≤ R.cells) (hl : n + rs ≤ R.slots)
    (g : ∀ (vm' : Vm) (T' : State) (h' : Heap) (v : Option Value), W κ l R Z EL own nm mx rt vm' T' h' (k + rc) (n + rs) → CRn Z EL vm h vm' h' → Q v h' (Safe Z EL vm' h') → Go κ G T' (pc + 3) Ls (v.toList ++ st)) : Go κ G T pc Ls st0 := by
  have w0 := w
  subst hst
  obtain ⟨q1, L, k0, X, e, hS, hk, hZ, ho, N, CC⟩ := w
  obtain ⟨cB, kB, i1, i2, i3⟩ := isOf (s := κ.s.setVm vm) hZ e E
  obtain ⟨v, vm₁, ⟨T', L', k', n'⟩, -, X', hS', hgr, ⟨L2, ⟨hQ, NL⟩, p1, p2, p3, p4⟩, stp⟩ := X.virtualBackUpS q1.1 ho (mvT (s := κ.s.setVm vm) hZ w1) (mvT (s := κ.s.setVm vm) hZ w2) (mvT (s := κ.s.setVm vm) hZ w3) hy (mvT (s := κ.s.setVm vm) hZ w4) (mvT (s := κ.s.setVm vm) hZ w5) hK i1 i3 (g := mkF κ.m pc Ls (argsL.reverse ++ .ref a :: st)) rfl (by rw [q1.2.1]; exact hsz) (Steps.refl _) (argsL := argsL) (rest := st) (lenOf hde hlen) rfl (by show 2 * 0 + _ ≤ _; omega) hd (fun _ _ => ⟨rfl, e, hc, hl⟩)
  dsimp only [Pt.U, Pt.locs, Pt.cells, Pt.slots] at X' hS' hgr hQ p1 p2 p3 p4 stp
  subst p1 p2 p3
  exact Fx.after stp (g T'.vm T' T'.heap v (w0.back ⟨k0, hS, hk⟩ N X' hS' (by rw [← e]; exact hgr) NL p4) p4 hQ)
theorem W.instNo (w : W κ l R Z EL own nm mx rt vm T h k n) {K C : String} {index : Nat} (w1 : (Cond.classLink own index K).before a0 Z = true) {a : Addr} (E : Exa Z h a C) (F : ∃ c t, Z.vm.findClass C = some c ∧ Z.vm.findClass K = some t ∧ Z.vm.assignable c t = false) (hd : decode κ.c.code pc = .ok (.instanceof index, 3))
    (g : ∀ T' : State, W κ l R Z EL own nm mx rt vm T' h k n → Go κ G T' (pc + 3) Ls (.int 0 :: st)) : Go κ G T pc Ls (.ref a :: st) := by
  obtain ⟨q1, L, k0, X, e, hS, hk, hZ, ho, N, CC⟩ := w
  obtain ⟨T', X', e', stp⟩ := RoadKit.instNo X q1.1 hZ ho w1 e E F (g := mkF κ.m pc Ls (.ref a :: st)) rfl rfl hd
  exact Fx.via stp (g T' ⟨q1, L, k0, X', e', hS, hk, hZ, ho, N, CC⟩)
theorem W.instNull (w : W κ l R Z EL own nm mx rt vm T h k n) {index : Nat} (hd : decode κ.c.code pc = .ok (.instanceof index, 3)) (g : Go κ G T (pc + 3) Ls (.int 0 :: st)) : Go κ G T pc Ls (.null :: st) := by
  obtain ⟨q1, L, k0, X, -⟩ := w
  exact Fx.via (Stand.instanceofNull X q1.1 (g := mkF κ.m pc Ls (.null :: st)) rfl rfl hd) g
theorem W.lsw (w : W κ l R Z EL own nm mx rt vm T h k n) {x : Int32} {dflt : Int} {pairs : Array (Int × Int)} {len : Nat} {pc' : Nat} (hd : decode κ.c.code pc = .ok (.lookupswitch dflt pairs, len)) (hso : (pairs.toList.zip (pairs.toList.drop 1)).all (fun (a, next) => a.1 < next.1) = true) {p : Int × Int} (hf : pairs.find? (·.1 == x.toInt) = some p) (ho : 0 ≤ (pc : Int) + p.2) (hp : ((pc : Int) + p.2).toNat = pc') (g : Go κ G T pc' Ls st) : Go κ G T pc Ls (.int x :: st) := by
  obtain ⟨q1, L, k0, X, -⟩ := w
  subst hp
  obtain ⟨p1, p2⟩ := p
  exact Fx.via (fun t z => Stand.lookupswitchHit X q1.1 (g := mkF κ.m pc Ls (.int x :: st)) rfl rfl hd hso hf ho t z) g
/-- the end -/
theorem W.ends (w : W κ l R Z EL own nm mx rt vm T h k n) {Q : Option Value → Heap → (Addr → Prop) → Prop} {v : Option Value} (hv : κ.M.sig.returnType = none → v = none) (hc : k ≤ R.cells) (hl : n ≤ R.slots) (hQ : ∀ S : Addr → Prop, (∀ x, x < h.size → Safe Z EL vm h x → S x) → Q v h S) {A : State}
    (hs : ∀ fs, (∀ (f : JFrame) (acts : List Action), f.method = κ.m → f.locked = none → f.entered = [] → (doReturn κ.e (T.setTop f) acts v).1 = T.setFrames fs) → Steps κ.p.tables κ.e κ.b A (T.setFrames fs)) : Fx κ (GQ κ Z EL R Q) A := by
  have w0 := w
  obtain ⟨q1, L, k0, X, e, hS, hk, hZ, ho, N, CC⟩ := w
  obtain ⟨a0, hEL⟩ := q1.2.2.2.2.2
  obtain ⟨fs, h1, h2, h3, h4⟩ := Stand.leaveW (s := κ.s) X hS (by rw [e]; exact hk) hv q1.2.2.2.1
  refine ⟨v, T.setFrames fs, hs fs h1, h2, h3, L, ⟨?_, N⟩, ?_, h4.1, h4.2.1, h4.2.2.1, h4.2.2.2.mono hc hl⟩
  · show Q v T.heap (Safe Z EL T.vm T.heap)
    rw [e]; exact hQ _ fun x hx S => (CRn.at X hZ hEL CC.1).safe hx S
  · have := CC.trans (CRn.at X hZ hEL CC.1)
    show CRn Z EL κ.s.vm κ.s.heap T.vm T.heap
    rw [e]; exact this
theorem W.retV (w : W κ l R Z EL own nm mx none vm T h k n) {Q : Option Value → Heap → (Addr → Prop) → Prop} (hd : decode κ.c.code pc = .ok (.return_, 1)) (hc : k ≤ R.cells) (hl : n ≤ R.slots) (hQ : ∀ S : Addr → Prop, (∀ x, x < h.size → Safe Z EL vm h x → S x) → Q none h S) : Go κ (GQ κ Z EL R Q) T pc Ls [] := by
  have w0 := w
  obtain ⟨q1, L, k0, X, -⟩ := w
  exact w0.ends (fun _ => rfl) hc hl hQ fun fs hr => X.returnOut q1.1 q1.2.2.1 hd hr
theorem W.retI (w : W κ l R Z EL own nm mx rt vm T h k n) {t : FieldType} (ht : rt = some t) (htk : t = .int ∨ t = .boolean ∨ t = .byte ∨ t = .char ∨ t = .short) {Q : Option Value → Heap → (Addr → Prop) → Prop} {z : Int32} (hn : narrow t (.int z) = .int z) (hd : decode κ.c.code pc = .ok (.ireturn, 1)) (hc : k ≤ R.cells) (hl : n ≤ R.slots) (hQ : ∀ S : Addr → Prop, (∀ x, x < h.size → Safe Z EL vm h x → S x) → Q (some (.int z)) h S) : Go κ (GQ κ Z EL R Q) T pc Ls (.int z :: st) := by
  have w0 := w
  obtain ⟨q1, L, k0, X, -⟩ := w
  subst ht
  exact w0.ends (fun q => by rw [q1.2.2.1] at q; cases q) hc hl hQ fun fs hr => retOut X q1.1 q1.2.2.1 hn (Or.inl ⟨rfl, htk, z, rfl⟩) hd hr
theorem W.retA (w : W κ l R Z EL own nm mx rt vm T h k n) {t : FieldType} (ht : rt = some t) (htk : t.isReference = true) {Q : Option Value → Heap → (Addr → Prop) → Prop} {v : Value} (hvr : v.isRef = true) (hn : narrow t v = v) (hd : decode κ.c.code pc = .ok (.areturn, 1)) (hc : k ≤ R.cells) (hl : n ≤ R.slots) (hQ : ∀ S : Addr → Prop, (∀ x, x < h.size → Safe Z EL vm h x → S x) → Q (some v) h S) : Go κ (GQ κ Z EL R Q) T pc Ls (v :: st) := by
  have w0 := w
  obtain ⟨q1, L, k0, X, -⟩ := w
  subst ht
  exact w0.ends (fun q => by rw [q1.2.2.1] at q; cases q) hc hl hQ fun fs hr => retOut X q1.1 q1.2.2.1 hn (Or.inr (Or.inr (Or.inr (Or.inr ⟨rfl, htk, hvr⟩)))) hd hr
end Laws
end Jvm.WK
namespace Jvm.WK
open Sem ClassFile Op Lib Jvm.Stand Jvm.Free Jvm.LawKit Jvm.RoadKit Bundle
/-! WK3: Strings, plainly -/
abbrev ST : String := "java/lang/String"
def lo8 (x : Int32) : Int32 := x.toInt8.toInt32
def hi8 (x : Int32) : Int32 := (x >>> ((8 : Int32) &&& 31)).toInt8.toInt32
def lo0 (x : Int32) : Int32 := (x >>> ((0 : Int32) &&& 31)).toInt8.toInt32
def IsC (cs : List Int32) : Prop := ∀ c ∈ cs, ¬ c < 0 ∧ ¬ 65535 < c
def IsL (cs : List Int32) : Prop := ∀ c ∈ cs, ¬ c < 0 ∧ ¬ 255 < c
theorem IsL.isC {cs : List Int32} (h : IsL cs) : IsC cs := fun c hc => ⟨(h c hc).1, fun q => (h c hc).2 (by
  rw [Int32.lt_iff_toInt_lt] at q ⊢
  have e1 : (65535 : Int32).toInt = 65535 := by decide
  have e2 : (255 : Int32).toInt = 255 := by decide
  omega)⟩
def u16 : List Int32 → List Int32
  | [] => []
  | c :: cs => lo0 c :: hi8 c :: u16 cs
theorem u16_len : ∀ cs : List Int32, (u16 cs).length = 2 * cs.length
  | [] => rfl
  | c :: cs => by simp only [u16, List.length_cons, u16_len cs]; omega
theorem u16_app : ∀ a b : List Int32, u16 (a ++ b) = u16 a ++ u16 b
  | [], b => rfl
  | c :: cs, b => by simp only [List.cons_append, u16, u16_app cs b]
theorem u16_at : ∀ (cs : List Int32) (i : Nat) (c : Int32), cs[i]? = some c → (u16 cs)[2 * i]? = some (lo0 c) ∧ (u16 cs)[2 * i + 1]? = some (hi8 c)
  | [], i, c, h => by simp at h
  | d :: cs, 0, c, h => by
    have e : d = c := by simpa using h
    subst e
    exact ⟨rfl, rfl⟩
  | d :: cs, i + 1, c, h => by
    have h' : cs[i]? = some c := by simpa using h
    obtain ⟨h1, h2⟩ := u16_at cs i c h'
    have e1 : 2 * (i + 1) = 2 * i + 1 + 1 := by omega
    have e2 : 2 * (i + 1) + 1 = 2 * i + 1 + 1 + 1 := by omega
    rw [e1]
    exact ⟨by simpa [u16] using h1, by simpa [u16] using h2⟩
theorem ofNat_toInt {i : Nat} (h : i < 2147483648) : (Int32.ofNat i).toInt = (i : Int) := Int32.toInt_ofNat_small (by omega)
theorem ofNat_add {i j : Nat} : Int32.ofNat i + Int32.ofNat j = Int32.ofNat (i + j) := (Int32.ofNat_add i j).symm
theorem ofNat_succ {i : Nat} : Int32.ofNat i + (1 : Int32) = Int32.ofNat (i + 1) := (Int32.ofNat_add i 1).symm
theorem ofNat_lt {i j : Nat} (hi : i < 2147483648) (hj : j < 2147483648) : Int32.ofNat i < Int32.ofNat j ↔ i < j := by
  rw [Int32.lt_iff_toInt_lt, ofNat_toInt hi, ofNat_toInt hj]; omega
theorem ofNat_inj {i j : Nat} (hi : i < 2147483648) (hj : j < 2147483648) : Int32.ofNat i = Int32.ofNat j ↔ i = j := by
  rw [← Int32.toInt_inj, ofNat_toInt hi, ofNat_toInt hj]; omega
theorem ofNat_dbl {i : Nat} (h : i < 1073741824) : Int32.ofNat i <<< ((1 : Int32) &&& 31) = Int32.ofNat (2 * i) := by
  rw [← Int32.toInt_inj, ofNat_toInt (by omega)]
  have h1 := c_ishl (Int32.ofNat i) 1 1 (by decide)
  rw [ofNat_toInt (by omega)] at h1
  have h2 := rng32 (Int32.ofNat i <<< ((1 : Int32) &&& 31))
  push_cast at h1 ⊢
  omega
theorem ofNat_half {i : Nat} (h : 2 * i < 2147483648) : Int32.ofNat (2 * i) >>> ((1 : Int32) &&& 31) = Int32.ofNat i := by
  rw [← Int32.toInt_inj, ofNat_toInt (by omega), c_ishr _ 1 1 (by decide), ofNat_toInt (by omega)]
  push_cast
  omega
theorem shr0 (x : Int32) : x >>> ((0 : Int32) &&& 31) = x := by
  rw [← Int32.toInt_inj, c_ishr _ 0 0 (by decide)]
  simp
theorem fits_lo8 (x : Int32) : fits .byte (.int (lo8 x)) = true := Jvm.Free.SBG.fits_of_int8 _
theorem fits_i2b (x : Int32) : fits .byte (.int x.toInt8.toInt32) = true := Jvm.Free.SBG.fits_of_int8 _
theorem nar_i2b (x : Int32) : nar .byte x.toInt8.toInt32 = x.toInt8.toInt32 := by simp [nar]
theorem fits_i2c (x : Int32) : fits .char (.int x.toUInt32.toUInt16.toUInt32.toInt32) = true := by
  have h := c_i2c x
  have e1 : (0 : Int32).toInt = 0 := by decide
  have e2 : (65535 : Int32).toInt = 65535 := by decide
  simp only [fits, Bool.and_eq_true, decide_eq_true_eq, Int32.le_iff_toInt_le, e1, e2]
  omega
theorem nar_i2c (x : Int32) : nar .char x.toUInt32.toUInt16.toUInt32.toInt32 = x.toUInt32.toUInt16.toUInt32.toInt32 := by
  simp only [nar, UInt32.toUInt32_toInt32, UInt16.toUInt16_toUInt32]
theorem char_of {x : Int32} (h0 : ¬ x < 0) (h1 : ¬ 65535 < x) : x.toUInt32.toUInt16.toUInt32.toInt32 = x := by
  rw [← Int32.toInt_inj]
  have h := c_i2c x
  rw [Int32.lt_iff_toInt_lt] at h0 h1
  have e1 : (0 : Int32).toInt = 0 := by decide
  have e2 : (65535 : Int32).toInt = 65535 := by decide
  omega
theorem narrow_char {x : Int32} (h0 : ¬ x < 0) (h1 : ¬ 65535 < x) : narrow .char (.int x) = .int x := by
  have := char_of h0 h1
  show Value.int x.toUInt32.toUInt16.toUInt32.toInt32 = _
  rw [this]
theorem lo8_and {x : Int32} (h0 : ¬ x < 0) (h1 : ¬ 255 < x) : lo8 x &&& (255 : Int32) = x := by
  rw [← Int32.toInt_inj, c_mask _ 255 8 (by decide) (by decide)]
  have h := c_i2b x
  rw [Int32.lt_iff_toInt_lt] at h0 h1
  have e1 : (0 : Int32).toInt = 0 := by decide
  have e2 : (255 : Int32).toInt = 255 := by decide
  unfold lo8
  omega
theorem lo8_inj {x y : Int32} (h0 : ¬ x < 0) (h1 : ¬ 255 < x) (g0 : ¬ y < 0) (g1 : ¬ 255 < y) (e : lo8 x = lo8 y) : x = y := by
  rw [← lo8_and h0 h1, ← lo8_and g0 g1, e]
theorem getc {c : Int32} (h0 : ¬ c < 0) (h1 : ¬ 65535 < c) : (((lo0 c &&& (255 : Int32)) <<< ((0 : Int32) &&& 31)) ||| ((hi8 c &&& (255 : Int32)) <<< ((8 : Int32) &&& 31))).toUInt32.toUInt16.toUInt32.toInt32 = c := by
  rw [← Int32.toInt_inj]
  rw [Int32.lt_iff_toInt_lt] at h0 h1
  have e1 : (0 : Int32).toInt = 0 := by decide
  have e2 : (65535 : Int32).toInt = 65535 := by decide
  have a0 := c_ishr c 0 0 (by decide)
  have a1 := c_i2b (c >>> ((0 : Int32) &&& 31))
  have a2 := c_mask (lo0 c) 255 8 (by decide) (by decide)
  have a3 := c_ishl (lo0 c &&& 255) 0 0 (by decide)
  have a4 := rng32 ((lo0 c &&& (255 : Int32)) <<< ((0 : Int32) &&& 31))
  have b0 := c_ishr c 8 8 (by decide)
  have b1 := c_i2b (c >>> ((8 : Int32) &&& 31))
  have b2 := c_mask (hi8 c) 255 8 (by decide) (by decide)
  have b3 := c_ishl (hi8 c &&& 255) 8 8 (by decide)
  have b4 := rng32 ((hi8 c &&& (255 : Int32)) <<< ((8 : Int32) &&& 31))
  have cc := c_or' ((lo0 c &&& (255 : Int32)) <<< ((0 : Int32) &&& 31)) ((hi8 c &&& (255 : Int32)) <<< ((8 : Int32) &&& 31)) 8 (by decide) 256 (by decide)
  have dd := c_i2c (((lo0 c &&& (255 : Int32)) <<< ((0 : Int32) &&& 31)) ||| ((hi8 c &&& (255 : Int32)) <<< ((8 : Int32) &&& 31)))
  have ee := rng32 (((lo0 c &&& (255 : Int32)) <<< ((0 : Int32) &&& 31)) ||| ((hi8 c &&& (255 : Int32)) <<< ((8 : Int32) &&& 31)))
  unfold lo0 hi8 at *
  generalize (c >>> ((0 : Int32) &&& 31)).toInt8.toInt32 = x0 at *
  generalize (c >>> ((8 : Int32) &&& 31)).toInt8.toInt32 = x1 at *
  generalize (x0 &&& (255 : Int32)) <<< ((0 : Int32) &&& 31) = y0 at *
  generalize (x1 &&& (255 : Int32)) <<< ((8 : Int32) &&& 31) = y1 at *
  generalize (y0 ||| y1).toUInt32.toUInt16.toUInt32.toInt32 = z at *
  have c2 : y1.toInt % 256 = 0 := by omega
  have c3 : 0 ≤ y0.toInt := by omega
  have c4 : y0.toInt < 256 := by omega
  have cc := cc c2 c3 c4
  omega
theorem set_map {pre : List Int32} {k : Nat} {a : Int32} (f : Int32 → Int32) : (pre.map f ++ List.replicate (k + 1) (0 : Int32)).set pre.length a = pre.map f ++ a :: List.replicate k 0 := by
  rw [List.set_append_right _ _ (by simp)]
  simp [List.replicate_succ]
theorem set_u16 {pre : List Int32} {k : Nat} {a b : Int32} : ((u16 pre ++ List.replicate (2 * (k + 1)) (0 : Int32)).set (2 * pre.length) a).set (2 * pre.length + 1) b = u16 pre ++ a :: b :: List.replicate (2 * k) 0 := by
  have e : 2 * (k + 1) = 2 * k + 1 + 1 := by omega
  rw [e, List.replicate_succ, List.replicate_succ, List.set_append_right _ _ (by rw [u16_len]; omega)]
  rw [u16_len, Nat.sub_self, List.set_cons_zero, List.set_append_right _ _ (by rw [u16_len]; omega), u16_len]
  have e2 : 2 * pre.length + 1 - 2 * pre.length = 0 + 1 := by omega
  rw [e2, List.set_cons_succ, List.set_cons_zero]
theorem take_succ {cs : List Int32} {i : Nat} {c : Int32} (h : cs[i]? = some c) : cs.take (i + 1) = cs.take i ++ [c] := by
  rw [List.take_add_one, h]; rfl
/-- a String that spells cs -/
def Str (Z : State) (h : Heap) (a : Addr) (cs : List Int32) : Prop :=
  ∃ b, Exa Z h a ST ∧ Fld Z h a ST "value" "[B" (.ref b) ∧ IsC cs ∧ cs.length < 1073741824 ∧
    ((IsL cs ∧ Fld Z h a ST "coder" "B" (.int 0) ∧ Ary Z h b .byte (cs.map lo8)) ∨ (¬ IsL cs ∧ Fld Z h a ST "coder" "B" (.int 1) ∧ Ary Z h b .byte (u16 cs)))
section StrFacts
variable {Z : State} {h h' : Heap} {a : Addr} {cs : List Int32} {ws : List Addr}
theorem Str.ext (E : Ext h h') (F : Str Z h a cs) : Str Z h' a cs := by
  obtain ⟨b, f1, f2, f3, f4, f5⟩ := F
  exact ⟨b, f1.ext E, f2.ext E, f3, f4, f5.imp (fun q => ⟨q.1, q.2.1.ext E, q.2.2.ext E⟩) (fun q => ⟨q.1, q.2.1.ext E, q.2.2.ext E⟩)⟩
theorem Str.exa (F : Str Z h a cs) : Exa Z h a ST := by obtain ⟨b, f1, -⟩ := F; exact f1
theorem Str.lt (F : Str Z h a cs) : a < h.size := F.exa.lt
theorem Str.isC (F : Str Z h a cs) : IsC cs := by obtain ⟨b, f1, f2, f3, -⟩ := F; exact f3
theorem Keep.toExt (K : Keep h h' []) : Ext h h' := ⟨K.1, fun x c q => K.2.1 x c q nin0⟩
/-- kept where all that was written is new (at or above h.size) -/
theorem Str.keepNew {h0 : Heap} (K : Keep h0 h' ws) (F : Str Z h0 a cs) (hw : ∀ x ∈ ws, h0.size ≤ x) : Str Z h' a cs :=
  F.ext ⟨K.1, fun x c q => K.2.1 x c q fun hm => absurd (Array.getElem?_eq_some_iff.mp q).1 (Nat.not_lt.mpr (hw x hm))⟩
end StrFacts
end Jvm.WK
namespace Jvm.WK
open Sem ClassFile Op Lib Jvm.Stand Jvm.Free Jvm.LawKit Jvm.RoadKit Bundle
section StrMore
variable {Z : State} {h h' : Heap} {a b x y : Addr} {cs ds : List Int32} {ws : List Addr} {a0 : Array Value}
theorem Ary.ne_exa {C : String} {kk : Nat} {ty : FieldType} {vs : List Int32} (F : Ary Z h y ty vs) (E : Exa Z h x C) (wi : (Cond.instantiable C kk).before a0 Z = true) : y ≠ x := by
  obtain ⟨c, A, -⟩ := F; exact fun e => ne_arr E wi A e.symm
theorem Ary.inj {ty : FieldType} {us vs : List Int32} (F : Ary Z h a ty us) (G : Ary Z h a ty vs) : us = vs := by
  obtain ⟨c, A, r1, -⟩ := F
  obtain ⟨c', A', r1', -⟩ := G
  cases A.1.symm.trans A'.1
  have := r1.symm.trans r1'
  exact (List.map_inj_right (fun x y q => by cases q; rfl)).mp this
theorem Ary.isC (F : Ary Z h a .char cs) : IsC cs := fun c hc => by
  have := F.fit c hc
  exact rng_char this
theorem Fld.inj {C n d : String} {v w : Value} (F : Fld Z h a C n d v) (G : Fld Z h a C n d w) : v = w := Classical.byContradiction fun q => F.ne G q rfl
theorem lo8_list : ∀ {cs ds : List Int32}, IsL cs → IsL ds → cs.map lo8 = ds.map lo8 → cs = ds
  | [], [], _, _, _ => rfl
  | [], d :: ds, _, _, h => by simp at h
  | c :: cs, [], _, _, h => by simp at h
  | c :: cs, d :: ds, h1, h2, h => by
    simp only [List.map_cons, List.cons.injEq] at h
    have e1 := lo8_inj (h1 c (List.mem_cons_self ..)).1 (h1 c (List.mem_cons_self ..)).2 (h2 d (List.mem_cons_self ..)).1 (h2 d (List.mem_cons_self ..)).2 h.1
    have e2 := lo8_list (fun x hx => h1 x (List.mem_cons_of_mem _ hx)) (fun x hx => h2 x (List.mem_cons_of_mem _ hx)) h.2
    rw [e1, e2]
theorem Str.lat (F : Str Z h a cs) (hL : IsL cs) : ∃ b, Fld Z h a ST "value" "[B" (.ref b) ∧ Fld Z h a ST "coder" "B" (.int 0) ∧ Ary Z h b .byte (cs.map lo8) := by
  obtain ⟨b, f1, f2, f3, f4, f5 | f5⟩ := F
  · exact ⟨b, f2, f5.2⟩
  · exact absurd hL f5.1
theorem Str.inj (F : Str Z h a cs) (G : Str Z h a ds) (hc : IsL cs) (hd : IsL ds) : cs = ds := by
  obtain ⟨b, f1, f2, f3⟩ := F.lat hc
  obtain ⟨b', g1, g2, g3⟩ := G.lat hd
  have := Fld.inj f1 g1
  cases this
  exact lo8_list hc hd (f3.inj g3)
theorem Str.len_lt (F : Str Z h a cs) : cs.length < 1073741824 := by obtain ⟨b, f1, f2, f3, f4, -⟩ := F; exact f4
theorem cod0 {n : Nat} : (((Int32.ofNat n - Int32.ofNat n).toUInt32 >>> ((31 : Int32) &&& 31).toUInt32).toInt32).toInt8.toInt32 = 0 := by
  rw [Int32.sub_self]; decide
theorem cod1 {n : Nat} (h0 : 0 < n) (h : 2 * n < 2147483648) : (((Int32.ofNat n - Int32.ofNat (2 * n)).toUInt32 >>> ((31 : Int32) &&& 31).toUInt32).toInt32).toInt8.toInt32 = 1 := by
  have e : ((Int32.ofNat n - Int32.ofNat (2 * n)).toUInt32 >>> ((31 : Int32) &&& 31).toUInt32).toInt32 = 1 := by
    rw [← Int32.toInt_inj, c_iushr _ 31 31 (by decide) (by decide)]
    have h1 := c_isub (Int32.ofNat n) (Int32.ofNat (2 * n))
    rw [ofNat_toInt (by omega), ofNat_toInt (by omega)] at h1
    have h2 := rng32 (Int32.ofNat n - Int32.ofNat (2 * n))
    have h3 : (1 : Int32).toInt = 1 := by decide
    rw [h3]
    omega
  rw [e]; decide
theorem isL_of {cs : List Int32} (hc : IsC cs) (h : ∀ i c, i < cs.length → cs[i]? = some c → ¬ 255 < c) : IsL cs := fun c hm => by
  obtain ⟨i, hi, rfl⟩ := List.getElem_of_mem hm
  exact ⟨(hc _ hm).1, h i _ hi (List.getElem?_eq_getElem hi)⟩
theorem not_isL {cs : List Int32} {i : Nat} {c : Int32} (h : cs[i]? = some c) (q : 255 < c) : ¬ IsL cs := fun hl => (hl c (List.mem_of_getElem? h)).2 q
end StrMore
end Jvm.WK
namespace Jvm.WK
open Sem ClassFile Op Lib Jvm.Stand Jvm.Free Jvm.LawKit Jvm.RoadKit Bundle
theorem fitsCh {x : Int32} (h0 : ¬ x < 0) (h1 : ¬ 65535 < x) : fits .char (.int x) = true := by
  have := fits_i2c x
  rw [char_of h0 h1] at this; exact this
theorem narCh {x : Int32} (h0 : ¬ x < 0) (h1 : ¬ 65535 < x) : nar .char x = x := char_of h0 h1
theorem and255 (x : Int32) : ¬ (x &&& (255 : Int32)).toUInt32.toUInt16.toUInt32.toInt32 < 0 ∧ ¬ 255 < (x &&& (255 : Int32)).toUInt32.toUInt16.toUInt32.toInt32 := by
  have h1 := c_and x 255 (by decide)
  have h2 := c_i2c (x &&& 255)
  have h3 : (255 : Int32).toInt = 255 := by decide
  have h4 : (0 : Int32).toInt = 0 := by decide
  rw [Int32.lt_iff_toInt_lt, Int32.lt_iff_toInt_lt]
  omega
theorem and255' (x : Int32) : ¬ (x &&& (255 : Int32)) < 0 ∧ ¬ 255 < (x &&& (255 : Int32)) := by
  have h1 := c_and x 255 (by decide)
  have h3 : (255 : Int32).toInt = 255 := by decide
  have h4 : (0 : Int32).toInt = 0 := by decide
  rw [Int32.lt_iff_toInt_lt, Int32.lt_iff_toInt_lt]
  omega
theorem i2c_bounds (x : Int32) : ¬ x.toUInt32.toUInt16.toUInt32.toInt32 < 0 ∧ ¬ 65535 < x.toUInt32.toUInt16.toUInt32.toInt32 := by
  have h2 := c_i2c x
  have h3 : (65535 : Int32).toInt = 65535 := by decide
  have h4 : (0 : Int32).toInt = 0 := by decide
  rw [Int32.lt_iff_toInt_lt, Int32.lt_iff_toInt_lt]
  omega
theorem le255 {x : Int32} (h : ¬ 255 < x) : ¬ 65535 < x := by
  have h3 : (65535 : Int32).toInt = 65535 := by decide
  have h4 : (255 : Int32).toInt = 255 := by decide
  rw [Int32.lt_iff_toInt_lt] at h ⊢
  omega
/-- a remainder of a masked int is a small number -/
theorem remNat (x q m : Int32) (n : Nat) (hq : 0 ≤ q.toInt) (hm : m.toInt = n) (h0 : 0 < n) : ∃ k, k < n ∧ (x &&& q) % m = Int32.ofNat k := by
  have h1 := c_and x q hq
  have h2 := (c_irem (x &&& q) m n hm).1 h1.1
  have h3 := Int.emod_nonneg (x &&& q).toInt (show (n : Int) ≠ 0 by omega)
  have h4 := Int.emod_lt_of_pos (x &&& q).toInt (show (0 : Int) < n by omega)
  have h5 := rng32 m
  refine ⟨((x &&& q).toInt % n).toNat, by omega, ?_⟩
  rw [← Int32.toInt_inj, h2, ofNat_toInt (by omega)]
  omega
/-- an int masked by a small constant is a small number -/
theorem andNat (x m : Int32) (n : Nat) (hm : m.toInt = n) : ∃ k, k ≤ n ∧ (x &&& m) = Int32.ofNat k := by
  have h1 := c_and x m (by omega)
  have h5 := rng32 m
  refine ⟨(x &&& m).toInt.toNat, by omega, ?_⟩
  rw [← Int32.toInt_inj, ofNat_toInt (by omega)]
  omega
end Jvm.WK
namespace Jvm.WK
open Sem ClassFile Op Lib Jvm.Stand Jvm.Free Jvm.LawKit Jvm.RoadKit Bundle
/-- a String is kept where just an object of another class was written -/
theorem Str.keepObj {Z : State} {h h' : Heap} {a x : Addr} {cs : List Int32} {C : String} {kk : Nat} {a0 : Array Value} (F : Str Z h a cs) (K : Keep h h' [x]) (E : Exa Z h x C) (hC : C ≠ ST) (wi : (Cond.instantiable C kk).before a0 Z = true) : Str Z h' a cs := by
  obtain ⟨b, f1, f2, f3, f4, f5⟩ := F
  have n1 : a ∉ [x] := ninS (Exa.ne f1 E (Ne.symm hC)) nin0
  have n2 : ∀ {vs : List Int32}, Ary Z h b .byte vs → b ∉ [x] := fun A => ninS (A.ne_exa E wi) nin0
  exact ⟨b, f1.keep K, f2.keep K n1, f3, f4, f5.imp (fun q => ⟨q.1, q.2.1.keep K n1, q.2.2.keep K (n2 q.2.2)⟩) (fun q => ⟨q.1, q.2.1.keep K n1, q.2.2.keep K (n2 q.2.2)⟩)⟩
theorem Ary.ofStatic {Z : State} {a : Addr} {args : Array Value} {t : Term} {AL : List Int32} (ev : t.eval args Z none [] Z = some (.ref a)) (hx : (Cond.arrayOf t .int).value args Z none Z [] = some true) (n : Nat) (hn : AL.length = n) (hlen : (Term.length t).eval args Z none [] Z = some (.int (Int32.ofNat n))) (hl : n < 2147483648) (hr : ∀ (i : Nat) (v : Int32), AL[i]? = some v → (Term.elem t (.int (Int32.ofNat i))).eval args Z none [] Z = some (.int v)) : Ary Z Z.heap a .int AL := by
  obtain ⟨c, A⟩ := Arr.start ev hx
  have hz : c.slots.size = n := by
    simp only [Term.eval, ev, Option.bind_eq_bind, Option.bind_some, A.fin (Vm.Alike.refl _)] at hlen
    split at hlen
    · rename_i hq
      have := Value.int.inj (Option.some.inj hlen)
      exact (ofNat_inj (by omega) hl).mp this
    · simp at hlen
  refine ⟨c, A, List.ext_getElem? fun i => ?_, by omega, fun v hv => rfl⟩
  by_cases hi : i < n
  · have hv := List.getElem?_eq_getElem (l := AL) (i := i) (by omega)
    have q := elem_in (hr i _ hv) ev (Term.int_eval _) A.1
    rw [clamp_ofNat (by omega)] at q
    rw [List.getElem?_map, hv, Array.getElem?_toList]; exact q.2
  · rw [List.getElem?_eq_none (by simp; omega), List.getElem?_eq_none (by simp; omega)]
theorem noIns {Z : State} {a0 : Array Value} {C O K : String} {nn : Nat} (w : (Cond.superclass C O).before a0 Z = true) (wo : (Cond.noSuperclass O).before a0 Z = true) (wi : (Cond.instantiable K nn).before a0 Z = true) (h1 : C ≠ K) (h2 : O ≠ K) : ∃ c t, Z.vm.findClass C = some c ∧ Z.vm.findClass K = some t ∧ Z.vm.assignable c t = false := by
  obtain ⟨t, kt, g1, g2, g3, g4, -⟩ := Cond.instantiable_spec wi
  have n0 : NS Z O K := by
    obtain ⟨c, k, a1, a2, a3, -, -⟩ := Cond.noSuperclass_spec wo
    have ne := ids_ne a1 g1 h2
    refine ⟨c, t, a1, g1, fun fuel => ?_⟩
    cases fuel with
    | zero => rfl
    | succ f => simp [Vm.isSubclassAux, ne, a2, a3]
  obtain ⟨c, t', h0, g0, n3⟩ := NS.step w n0 h1
  cases g1.symm.trans g0
  obtain ⟨p, k, kp, q1, q2, q3, q4, q5, -, q7⟩ := Cond.superclass_spec h0 w
  have ne := ids_ne h0 g0 h1
  have hi : kt.isInterface = false := by
    rw [Bool.or_eq_false_iff] at g4; exact g4.1
  refine ⟨c, _, h0, g0, ?_⟩
  show Z.vm.assignableAux (255 + 1) c _ = false
  simp [Vm.assignableAux, ne, q2, g2, q5, g3, hi, Vm.isSubclass, n3]
end Jvm.WK
namespace Jvm.Pilot.@@N@@
open Jvm Jvm.ClassFile Sem Op Lib Jvm.Free Jvm.Stand Jvm.LawKit Jvm.RoadKit Jvm.WK Bundle Jvm.Pilot.@@N@@.Jvm.D
def JS (Z : State) : Prop := (∃ c : Int32, Sta Z Z.heap "java/lang/String" "COMPACT_STRINGS" "Z" (.int c) ∧ ¬ c = 0) ∧ ∃ f : Value, Sta Z Z.heap "jdk/internal/util/Preconditions" "SIOOBE_FORMATTER" "Ljava/util/function/BiFunction;" f ∧ f.isRef = true
def JU (Z : State) : Prop := Sta Z Z.heap "java/lang/StringUTF16" "$assertionsDisabled" "Z" (.int 1) ∧ Sta Z Z.heap "java/lang/StringUTF16" "HI_BYTE_SHIFT" "I" (.int 0) ∧ Sta Z Z.heap "java/lang/StringUTF16" "LO_BYTE_SHIFT" "I" (.int 8)
theorem own_eqi {args : Array Value} {s : State} {t : Term} {z : Int32} (h : (Jvm.Cond.eq t (.int z)).value args s none s [] = some true) : t.eval args s none [] s = some (.int z) := eqv_i (Term.int_eval z) h
def okb (o c : Int32) : Bool := (!(decide (c < 48)) && !(decide (57 < c))) || (decide (o = 1) && ((!(decide (c < 65)) && !(decide (90 < c))) || (!(decide (c < 97)) && !(decide (122 < c)))))
theorem okb_dig {o c r2 : Int32} (hr2 : r2 = (if (!(decide (c < 48)) && !(decide (57 < c))) = true then 1 else 0)) (hc : ¬ r2 = 0) : okb o c = true := by
  by_cases q : (!(decide (c < 48)) && !(decide (57 < c))) = true
  · simp only [okb, q, Bool.true_or]
  · rw [if_neg q] at hr2; exact absurd hr2 hc
theorem okb_nod {c r2 : Int32} (hr2 : r2 = (if (!(decide (c < 48)) && !(decide (57 < c))) = true then 1 else 0)) (hc : r2 = 0) : (!(decide (c < 48)) && !(decide (57 < c))) = false := by
  by_cases q : (!(decide (c < 48)) && !(decide (57 < c))) = true
  · rw [if_pos q] at hr2; rw [hr2] at hc; exact absurd hc (by decide)
  · simpa using q
def KD (Z : State) (aD aL : Addr) : Prop := (Sta Z Z.heap "com/example/bogenwerk/bogenwerk/HeaderChecks$Characters" "DIGITS" "Lcom/example/bogenwerk/bogenwerk/HeaderChecks$Characters;" (.ref aD) ∧ Exa Z Z.heap aD "com/example/bogenwerk/bogenwerk/HeaderChecks$Characters" ∧ Fld Z Z.heap aD "java/lang/Enum" "ordinal" "I" (.int 0)) ∧ (Sta Z Z.heap "com/example/bogenwerk/bogenwerk/HeaderChecks$Characters" "LETTERS_OR_DIGITS" "Lcom/example/bogenwerk/bogenwerk/HeaderChecks$Characters;" (.ref aL) ∧ Exa Z Z.heap aL "com/example/bogenwerk/bogenwerk/HeaderChecks$Characters" ∧ Fld Z Z.heap aL "java/lang/Enum" "ordinal" "I" (.int 1))
theorem own_cov {f t : Nat} (hf : f < 5) (ht : t < 5) {c0 c1 c2 c3 : Int32} {g : Int32 → Bool} : (((([c0, c1, c2, c3] : List Int32).take t).drop f).all g = true) ↔ (((0 < f ∨ ¬ 0 < t) ∨ g c0 = true) ∧ ((1 < f ∨ ¬ 1 < t) ∨ g c1 = true) ∧ ((2 < f ∨ ¬ 2 < t) ∨ g c2 = true) ∧ ((3 < f ∨ ¬ 3 < t) ∨ g c3 = true)) := by
  obtain rfl | rfl | rfl | rfl | rfl : f = 0 ∨ f = 1 ∨ f = 2 ∨ f = 3 ∨ f = 4 := by omega
  all_goals obtain rfl | rfl | rfl | rfl | rfl : t = 0 ∨ t = 1 ∨ t = 2 ∨ t = 3 ∨ t = 4 := by omega
  all_goals simp
def cov (f t i : Nat) (b : Bool) : Prop := (Int32.ofNat i < Int32.ofNat f ∨ ¬ Int32.ofNat i < Int32.ofNat t) ∨ b = true
theorem own_covI {f t i : Nat} {b : Bool} (hf : f < 5) (ht : t < 5) (hi : i < 5) : cov f t i b ↔ ((i < f ∨ ¬ i < t) ∨ b = true) := by
  unfold cov
  rw [ofNat_lt (by omega) (by omega), ofNat_lt (by omega) (by omega)]
instance {f t i : Nat} {b : Bool} : Decidable (cov f t i b) := inferInstanceAs (Decidable (_ ∨ _))
theorem own_fldi {args : Array Value} {s : State} {t : Term} {a : Addr} {C n d : String} {z : Int32} (ht : t.eval args s none [] s = some (.ref a)) (h : (Term.field t C n d).eval args s none [] s = some (.int z)) : s.fieldOf? a C n d = some (.int z) := by
  simpa [Term.eval, ht] using h
theorem pd0 : parseMethodDescriptor "(I)I" = some ⟨[.int], (some .int)⟩ := by decide +kernel
theorem pd1 : parseMethodDescriptor "(I)[B" = some ⟨[.int], (some (.array .byte))⟩ := by decide +kernel
theorem pd2 : parseMethodDescriptor "([BII)V" = some ⟨[(.array .byte), .int, .int], none⟩ := by decide +kernel
theorem pd3 : parseMethodDescriptor "([CI[BII)I" = some ⟨[(.array .char), .int, (.array .byte), .int, .int], (some .int)⟩ := by decide +kernel
theorem pd4 : parseMethodDescriptor "([CII)[B" = some ⟨[(.array .char), .int, .int], (some (.array .byte))⟩ := by decide +kernel
theorem pd5 : parseMethodDescriptor "([BI)C" = some ⟨[(.array .byte), .int], (some .char)⟩ := by decide +kernel
theorem pd6 : parseMethodDescriptor "([BI)B" = some ⟨[(.array .byte), .int], (some .byte)⟩ := by decide +kernel
theorem pd7 : parseMethodDescriptor "([CIILjava/lang/Void;)V" = some ⟨[(.array .char), .int, .int, (.object "java/lang/Void")], none⟩ := by decide +kernel
theorem pd8 : parseMethodDescriptor "(IILjava/util/function/BiFunction;)I" = some ⟨[.int, .int, (.object "java/util/function/BiFunction")], (some .int)⟩ := by decide +kernel
theorem pd9 : parseMethodDescriptor "(II)V" = some ⟨[.int, .int], none⟩ := by decide +kernel
theorem pd10 : parseMethodDescriptor "([B)I" = some ⟨[(.array .byte)], (some .int)⟩ := by decide +kernel
theorem pd11 : parseMethodDescriptor "(I[B)V" = some ⟨[.int, (.array .byte)], none⟩ := by decide +kernel
theorem pd12 : parseMethodDescriptor "()Z" = some ⟨[], (some .boolean)⟩ := by decide +kernel
theorem pd13 : parseMethodDescriptor "()I" = some ⟨[], (some .int)⟩ := by decide +kernel
theorem pd14 : parseMethodDescriptor "(I)C" = some ⟨[.int], (some .char)⟩ := by decide +kernel
theorem pd15 : parseMethodDescriptor "(C)Z" = some ⟨[.char], (some .boolean)⟩ := by decide +kernel
theorem pd16 : parseMethodDescriptor "(ZC)Z" = some ⟨[.boolean, .char], (some .boolean)⟩ := by decide +kernel
theorem pd17 : parseMethodDescriptor "([C)V" = some ⟨[(.array .char)], none⟩ := by decide +kernel
theorem pd18 : parseMethodDescriptor "(Ljava/lang/String;II)Z" = some ⟨[(.object "java/lang/String"), .int, .int], (some .boolean)⟩ := by decide +kernel
theorem pd19 : parseMethodDescriptor "(IIIZC)Z" = some ⟨[.int, .int, .int, .boolean, .char], (some .boolean)⟩ := by decide +kernel
def D_cmp5 : List (Nat × Instr × Nat) := [(0, .iconst 0, 1), (1, .istore 5, 2), (3, .iload 5, 2), (5, .iload 4, 2), (7, .if_icmp .ge 37, 3), (10, .aload_n 0, 1), (11, .iload_n 1, 1), (12, .caload, 1), (13, .istore 6, 2), (15, .iload 6, 2), (17, .sipush 255, 3), (20, .if_icmp .le 6, 3), (23, .iload 5, 2), (25, .ireturn, 1), (26, .aload_n 2, 1), (27, .iload_n 3, 1), (28, .iload 6, 2), (30, .i2b, 1), (31, .bastore, 1), (32, .iinc 1 1, 3), (35, .iinc 3 1, 3), (38, .iinc 5 1, 3), (41, .goto (-38), 3), (44, .iload 4, 2), (46, .ireturn, 1)]
theorem hD_cmp5 : ∀ q ∈ D_cmp5, decode jdk_52_method_21_code q.1 = .ok q.2 := by decide +kernel
set_option maxRecDepth 65536 in
set_option maxHeartbeats 4000000 in
theorem c_cmp5 (l : Launch) (Z : State) (a0 : Array Value) (hw : ∀ d ∈ tables_1, d.before a0 Z = true) (hEL : EW Z a0 []) (hJS : JS Z) (hJU : JU Z) (aD aL : Addr) (hK : KD Z aD aL) {A d : Addr} {cs : List Int32} {h : Heap} (FA : Ary Z h A .char cs) (FD : Ary Z h d .byte (List.replicate cs.length 0)) (hd0 : Z.heap.size ≤ d) : Ctr l Z [] (⟨"java/lang/StringUTF16", "compress", "([CI[BII)I"⟩ : MethodName) jdk_52_method_21_code 7 (some .int) [] ({ frames := 0, cells := 0, slots := 0, locals := 0 } : Room) [d] #[(.ref A), (.int (0 : Int32)), (.ref d), (.int (0 : Int32)), (.int (Int32.ofNat cs.length))] h (fun v h' S => ∃ r, r ≤ cs.length ∧ v = some (.int (Int32.ofNat r)) ∧ Keep h h' [d] ∧ (∀ i c, i < r → cs[i]? = some c → ¬ 255 < c) ∧ (r < cs.length → ∃ c, cs[r]? = some c ∧ 255 < c) ∧ (r = cs.length → Ary Z h' d .byte (cs.map lo8))) := by
  refine enter (a0 := a0) (by first | (simp [plainName, overriddenIn]; done) | decide +kernel) hEL (Ls := #[.val (.ref A), .val (.int (0 : Int32)), .val (.ref d), .val (.int (0 : Int32)), .val (.int (Int32.ofNat cs.length)), .unset, .unset]) (fun m => by first | (simp [entryFrame, mkF, argsToLocals, Value.category]; done) | rfl) ?_
  intro κ vm T hby hs w Sf
  have dc := Dec.of hby hD_cmp5
  show Go κ (GQ κ Z [] ({ frames := 0, cells := 0, slots := 0, locals := 0 } : Room) (fun v h' S => ∃ r, r ≤ cs.length ∧ v = some (.int (Int32.ofNat r)) ∧ Keep h h' [d] ∧ (∀ i c, i < r → cs[i]? = some c → ¬ 255 < c) ∧ (r < cs.length → ∃ c, cs[r]? = some c ∧ 255 < c) ∧ (r = cs.length → Ary Z h' d .byte (cs.map lo8)))) T 0 #[.val (.ref A), .val (.int (0 : Int32)), .val (.ref d), .val (.int (0 : Int32)), .val (.int (Int32.ofNat cs.length)), .unset, .unset] []
  have hNA := FA.small
  have hne : A ≠ d := FA.ne_ty FD (by decide)
  have key : ∀ (f i : Nat), i + f = cs.length → (∀ j c, j < i → cs[j]? = some c → ¬ 255 < c) → ∀ (T1 : State) (h1 : Heap) (s6 : Slot), W κ l ({ frames := 0, cells := 0, slots := 0, locals := 0 } : Room) Z [] "java/lang/StringUTF16" "compress" 7 (some .int) vm T1 h1 0 0 → Ary Z h1 A .char cs → Ary Z h1 d .byte ((cs.take i).map lo8 ++ List.replicate f 0) → Keep h h1 [d] → Safe Z [] vm h1 d → One s6 → Go κ (GQ κ Z [] ({ frames := 0, cells := 0, slots := 0, locals := 0 } : Room) (fun v h' S => ∃ r, r ≤ cs.length ∧ v = some (.int (Int32.ofNat r)) ∧ Keep h h' [d] ∧ (∀ i c, i < r → cs[i]? = some c → ¬ 255 < c) ∧ (r < cs.length → ∃ c, cs[r]? = some c ∧ 255 < c) ∧ (r = cs.length → Ary Z h' d .byte (cs.map lo8)))) T1 3 #[.val (.ref A), .val (.int (Int32.ofNat i)), .val (.ref d), .val (.int (Int32.ofNat i)), .val (.int (Int32.ofNat cs.length)), .val (.int (Int32.ofNat i)), s6] [] := by
    intro f
    induction f with
    | zero =>
      intro i hi hlt T1 h1 s6 w1 GA GD K S hs6
      obtain rfl : i = cs.length := by omega
      show Go κ _ T1 3 #[.val (.ref A), .val (.int (Int32.ofNat cs.length)), .val (.ref d), .val (.int (Int32.ofNat cs.length)), .val (.int (Int32.ofNat cs.length)), .val (.int (Int32.ofNat cs.length)), s6] []
      refine blk (pc' := 7) (Ls' := #[.val (.ref A), .val (.int (Int32.ofNat cs.length)), .val (.ref d), .val (.int (Int32.ofNat cs.length)), .val (.int (Int32.ofNat cs.length)), .val (.int (Int32.ofNat cs.length)), s6]) (st' := [(.int (Int32.ofNat cs.length)), (.int (Int32.ofNat cs.length))]) [oIload w1.ok (dc.g 2 rfl), oIload w1.ok (dc.g 3 rfl)] rfl ?_
      refine cGe (pc' := 44) w1.ok (dc.g 4 rfl) (by decide) (by decide) (fun hc1 => ?_) (fun hc1 => absurd hc1 (fun q => absurd q (by rw [ofNat_lt hNA hNA]; omega)))
      show Go κ _ T1 44 #[.val (.ref A), .val (.int (Int32.ofNat cs.length)), .val (.ref d), .val (.int (Int32.ofNat cs.length)), .val (.int (Int32.ofNat cs.length)), .val (.int (Int32.ofNat cs.length)), s6] []
      refine blk (pc' := 46) (Ls' := #[.val (.ref A), .val (.int (Int32.ofNat cs.length)), .val (.ref d), .val (.int (Int32.ofNat cs.length)), .val (.int (Int32.ofNat cs.length)), .val (.int (Int32.ofNat cs.length)), s6]) (st' := [(.int (Int32.ofNat cs.length))]) [oIload w1.ok (dc.g 23 rfl)] rfl ?_
      exact w1.retI (t := .int) rfl (Or.inl rfl) rfl (dc.g 24 rfl) (by decide) (by decide) (fun S hS => ⟨cs.length, Nat.le_refl _, rfl, K, hlt, fun q => absurd q (Nat.lt_irrefl _), fun _ => by simpa using GD⟩)
    | succ f ih =>
      intro i hi hlt T1 h1 s6 w1 GA GD K S hs6
      obtain ⟨c, hc⟩ : ∃ c, cs[i]? = some c := ⟨_, List.getElem?_eq_getElem (by omega)⟩
      show Go κ _ T1 3 #[.val (.ref A), .val (.int (Int32.ofNat i)), .val (.ref d), .val (.int (Int32.ofNat i)), .val (.int (Int32.ofNat cs.length)), .val (.int (Int32.ofNat i)), s6] []
      refine blk (pc' := 7) (Ls' := #[.val (.ref A), .val (.int (Int32.ofNat i)), .val (.ref d), .val (.int (Int32.ofNat i)), .val (.int (Int32.ofNat cs.length)), .val (.int (Int32.ofNat i)), s6]) (st' := [(.int (Int32.ofNat cs.length)), (.int (Int32.ofNat i))]) [oIload w1.ok (dc.g 2 rfl), oIload w1.ok (dc.g 3 rfl)] rfl ?_
      refine cGe (pc' := 44) w1.ok (dc.g 4 rfl) (by decide) (by decide) (fun hc2 => absurd ((ofNat_lt (by omega) hNA).mpr (by omega)) hc2) (fun hc2 => ?_)
      show Go κ _ T1 10 #[.val (.ref A), .val (.int (Int32.ofNat i)), .val (.ref d), .val (.int (Int32.ofNat i)), .val (.int (Int32.ofNat cs.length)), .val (.int (Int32.ofNat i)), s6] []
      refine blk (pc' := 12) (Ls' := #[.val (.ref A), .val (.int (Int32.ofNat i)), .val (.ref d), .val (.int (Int32.ofNat i)), .val (.int (Int32.ofNat cs.length)), .val (.int (Int32.ofNat i)), s6]) (st' := [(.int (Int32.ofNat i)), (.ref A)]) [oAloadN w1.ok (dc.g 5 rfl), oIloadN w1.ok (dc.g 6 rfl)] rfl ?_
      refine w1.cld GA (i := i) rfl hc (dc.g 7 rfl) ?_
      show Go κ _ T1 13 #[.val (.ref A), .val (.int (Int32.ofNat i)), .val (.ref d), .val (.int (Int32.ofNat i)), .val (.int (Int32.ofNat cs.length)), .val (.int (Int32.ofNat i)), s6] [(.int c)]
      refine istoreG w1.ok (dc.g 8 rfl) rfl hs6 ?_
      show Go κ _ T1 15 #[.val (.ref A), .val (.int (Int32.ofNat i)), .val (.ref d), .val (.int (Int32.ofNat i)), .val (.int (Int32.ofNat cs.length)), .val (.int (Int32.ofNat i)), .val (.int c)] []
      refine blk (pc' := 20) (Ls' := #[.val (.ref A), .val (.int (Int32.ofNat i)), .val (.ref d), .val (.int (Int32.ofNat i)), .val (.int (Int32.ofNat cs.length)), .val (.int (Int32.ofNat i)), .val (.int c)]) (st' := [(.int (255 : Int32)), (.int c)]) [oIload w1.ok (dc.g 9 rfl), oSipush w1.ok (dc.g 10 rfl)] rfl ?_
      refine cLe (pc' := 26) w1.ok (dc.g 11 rfl) (by decide) (by decide) (fun hc3 => ?_) (fun hc3 => ?_)
      · show Go κ _ T1 26 #[.val (.ref A), .val (.int (Int32.ofNat i)), .val (.ref d), .val (.int (Int32.ofNat i)), .val (.int (Int32.ofNat cs.length)), .val (.int (Int32.ofNat i)), .val (.int c)] []
        refine blk (pc' := 31) (Ls' := #[.val (.ref A), .val (.int (Int32.ofNat i)), .val (.ref d), .val (.int (Int32.ofNat i)), .val (.int (Int32.ofNat cs.length)), .val (.int (Int32.ofNat i)), .val (.int c)]) (st' := [(.int ((c).toInt8.toInt32)), (.int (Int32.ofNat i)), (.ref d)]) [oAloadN w1.ok (dc.g 14 rfl), oIloadN w1.ok (dc.g 15 rfl), oIload w1.ok (dc.g 16 rfl), oI2b w1.ok (dc.g 17 rfl)] rfl ?_
        refine w1.bst GD (i := i) rfl (by simp; omega) (nar_i2b _) (fits_i2b _) S hd0 (dc.g 18 rfl) ?_
        intro T4 h6 w5 W7 F8 S9
        show Go κ _ T4 32 #[.val (.ref A), .val (.int (Int32.ofNat i)), .val (.ref d), .val (.int (Int32.ofNat i)), .val (.int (Int32.ofNat cs.length)), .val (.int (Int32.ofNat i)), .val (.int c)] []
        obtain ⟨slW7, vvW7, WW7⟩ := W7
        refine blk (pc' := 3) (Ls' := #[.val (.ref A), .val (.int ((Int32.ofNat i) + (1 : Int32))), .val (.ref d), .val (.int ((Int32.ofNat i) + (1 : Int32))), .val (.int (Int32.ofNat cs.length)), .val (.int ((Int32.ofNat i) + (1 : Int32))), .val (.int c)]) (st' := []) [oIinc w5.ok (dc.g 19 rfl), oIinc w5.ok (dc.g 20 rfl), oIinc w5.ok (dc.g 21 rfl), oGoto w5.ok 3 (dc.g 22 rfl)] rfl ?_
        rw [ofNat_succ]
        refine ih (i + 1) (by omega) (fun j c' hj hc' => ?_) _ _ _ w5 (GA.other WW7 hne) ?_ (K.wr WW7 (Or.inl (List.mem_of_getElem? (i := 0) rfl))) S9 (One.val rfl)
        · rcases Nat.lt_succ_iff_lt_or_eq.mp hj with q | q
          · exact hlt j c' q hc'
          · subst q; rw [hc] at hc'; cases hc'; exact hc3
        · have e : (cs.take i).length = i := by rw [List.length_take]; omega
          have := set_map (pre := cs.take i) (k := f) (a := c.toInt8.toInt32) lo8
          rw [e] at this
          rw [this] at F8
          rw [take_succ hc, List.map_append, List.append_assoc]; exact F8
      · show Go κ _ T1 23 #[.val (.ref A), .val (.int (Int32.ofNat i)), .val (.ref d), .val (.int (Int32.ofNat i)), .val (.int (Int32.ofNat cs.length)), .val (.int (Int32.ofNat i)), .val (.int c)] []
        refine blk (pc' := 25) (Ls' := #[.val (.ref A), .val (.int (Int32.ofNat i)), .val (.ref d), .val (.int (Int32.ofNat i)), .val (.int (Int32.ofNat cs.length)), .val (.int (Int32.ofNat i)), .val (.int c)]) (st' := [(.int (Int32.ofNat i))]) [oIload w1.ok (dc.g 12 rfl)] rfl ?_
        exact w1.retI (t := .int) rfl (Or.inl rfl) rfl (dc.g 13 rfl) (by decide) (by decide) (fun S hS => ⟨i, by omega, rfl, K, hlt, fun _ => ⟨c, hc, hc3⟩, fun q => by omega⟩)
  refine blk (pc' := 3) (Ls' := #[.val (.ref A), .val (.int (0 : Int32)), .val (.ref d), .val (.int (0 : Int32)), .val (.int (Int32.ofNat cs.length)), .val (.int (0 : Int32)), .unset]) (st' := []) [oIconst w.ok (dc.g 0 rfl), oIstore w.ok (dc.g 1 rfl)] rfl ?_
  exact key cs.length 0 (by omega) (fun j c q => by omega) T h .unset w FA (by simpa using FD) (Keep.refl _ _) (Sf d (List.mem_singleton.mpr rfl)) One.u
def D_nbl : List (Nat × Instr × Nat) := [(0, .iload_n 0, 1), (1, .ifCond .ge 11, 3), (4, .new 17, 3), (7, .dup, 1), (8, .invokespecial 19, 3), (11, .athrow, 1), (12, .iload_n 0, 1), (13, .ldc 20, 2), (15, .if_icmp .lt 40, 3), (18, .new 21, 3), (21, .dup, 1), (22, .new 23, 3), (25, .dup, 1), (26, .invokespecial 25, 3), (29, .ldc 26, 2), (31, .invokevirtual 28, 3), (34, .iload_n 0, 1), (35, .invokevirtual 32, 3), (38, .ldc 35, 2), (40, .invokevirtual 28, 3), (43, .ldc 20, 2), (45, .invokevirtual 32, 3), (48, .invokevirtual 37, 3), (51, .invokespecial 41, 3), (54, .athrow, 1), (55, .iload_n 0, 1), (56, .iconst 1, 1), (57, .ishl, 1), (58, .ireturn, 1)]
theorem hD_nbl : ∀ q ∈ D_nbl, decode jdk_52_method_3_code q.1 = .ok q.2 := by decide +kernel
set_option maxRecDepth 65536 in
set_option maxHeartbeats 4000000 in
theorem c_nbl (l : Launch) (Z : State) (a0 : Array Value) (hw : ∀ d ∈ tables_1, d.before a0 Z = true) (hEL : EW Z a0 []) (hJS : JS Z) (hJU : JU Z) (aD aL : Addr) (hK : KD Z aD aL) {n : Nat} {h : Heap} (hn : n ≤ 4) : Ctr l Z [] (⟨"java/lang/StringUTF16", "newBytesLength", "(I)I"⟩ : MethodName) jdk_52_method_3_code 1 (some .int) [] ({ frames := 0, cells := 0, slots := 0, locals := 0 } : Room) [] #[(.int (Int32.ofNat n))] h (fun v h' S => h = h' ∧ v = some (.int (Int32.ofNat (2 * n)))) := by
  refine enter (a0 := a0) (by first | (simp [plainName, overriddenIn]; done) | decide +kernel) hEL (Ls := #[.val (.int (Int32.ofNat n))]) (fun m => by first | (simp [entryFrame, mkF, argsToLocals, Value.category]; done) | rfl) ?_
  intro κ vm T hby hs w Sf
  have dc := Dec.of hby hD_nbl
  show Go κ (GQ κ Z [] ({ frames := 0, cells := 0, slots := 0, locals := 0 } : Room) (fun v h' S => h = h' ∧ v = some (.int (Int32.ofNat (2 * n))))) T 0 #[.val (.int (Int32.ofNat n))] []
  refine blk (pc' := 1) (Ls' := #[.val (.int (Int32.ofNat n))]) (st' := [(.int (Int32.ofNat n))]) [oIloadN w.ok (dc.g 0 rfl)] rfl ?_
  refine zGe (pc' := 12) w.ok (dc.g 1 rfl) (by decide) (by decide) (fun hc10 => ?_) (fun hc10 => absurd hc10 (nneg_ofNat (by omega)))
  show Go κ _ T 12 #[.val (.int (Int32.ofNat n))] []
  refine blk (pc' := 13) (Ls' := #[.val (.int (Int32.ofNat n))]) (st' := [(.int (Int32.ofNat n))]) [oIloadN w.ok (dc.g 6 rfl)] rfl ?_
  refine w.ldcI (wd hw 54 rfl) (dc.g 7 rfl) ?_
  show Go κ _ T 15 #[.val (.int (Int32.ofNat n))] [(.int (1073741823 : Int32)), (.int (Int32.ofNat n))]
  refine cLt (pc' := 55) w.ok (dc.g 8 rfl) (by decide) (by decide) (fun hc11 => ?_) (fun hc11 => absurd (by rw [show (1073741823 : Int32) = Int32.ofNat 1073741823 from by decide, ofNat_lt (by omega) (by omega)]; omega) hc11)
  show Go κ _ T 55 #[.val (.int (Int32.ofNat n))] []
  refine blk (pc' := 58) (Ls' := #[.val (.int (Int32.ofNat n))]) (st' := [(.int ((Int32.ofNat n) <<< ((1 : Int32) &&& 31)))]) [oIloadN w.ok (dc.g 25 rfl), oIconst w.ok (dc.g 26 rfl), oIshl w.ok (dc.g 27 rfl)] rfl ?_
  exact w.retI (t := .int) rfl (Or.inl rfl) rfl (dc.g 28 rfl) (by decide) (by decide) (fun S hS => ⟨rfl, by rw [ofNat_dbl (by omega)]⟩)
def D_nbf : List (Nat × Instr × Nat) := [(0, .iload_n 0, 1), (1, .invokestatic 11, 3), (4, .newarray .byte, 2), (6, .areturn, 1)]
theorem hD_nbf : ∀ q ∈ D_nbf, decode jdk_52_method_2_code q.1 = .ok q.2 := by decide +kernel
set_option maxRecDepth 65536 in
set_option maxHeartbeats 4000000 in
theorem c_nbf (l : Launch) (Z : State) (a0 : Array Value) (hw : ∀ d ∈ tables_1, d.before a0 Z = true) (hEL : EW Z a0 []) (hJS : JS Z) (hJU : JU Z) (aD aL : Addr) (hK : KD Z aD aL) {n : Nat} {h : Heap} (hn : n ≤ 4) : Ctr l Z [] (⟨"java/lang/StringUTF16", "newBytesFor", "(I)[B"⟩ : MethodName) jdk_52_method_2_code 1 (some (.array .byte)) [] ({ frames := 1, cells := 1, slots := 8, locals := 12 } : Room) [] #[(.int (Int32.ofNat n))] h (fun v h' S => Keep h h' [] ∧ ∃ x, v = some (.ref x) ∧ h.size ≤ x ∧ Ary Z h' x .byte (List.replicate (2 * n) 0) ∧ S x) := by
  refine enter (a0 := a0) (by first | (simp [plainName, overriddenIn]; done) | decide +kernel) hEL (Ls := #[.val (.int (Int32.ofNat n))]) (fun m => by first | (simp [entryFrame, mkF, argsToLocals, Value.category]; done) | rfl) ?_
  intro κ vm T hby hs w Sf
  have dc := Dec.of hby hD_nbf
  show Go κ (GQ κ Z [] ({ frames := 1, cells := 1, slots := 8, locals := 12 } : Room) (fun v h' S => Keep h h' [] ∧ ∃ x, v = some (.ref x) ∧ h.size ≤ x ∧ Ary Z h' x .byte (List.replicate (2 * n) 0) ∧ S x)) T 0 #[.val (.int (Int32.ofNat n))] []
  refine blk (pc' := 1) (Ls' := #[.val (.int (Int32.ofNat n))]) (st' := [(.int (Int32.ofNat n))]) [oIloadN w.ok (dc.g 0 rfl)] rfl ?_
  refine w.callS (wd hw 51 rfl) (wd hw 52 rfl) (wd hw 18 rfl) (wd hw 53 rfl) (by decide) (argsL := [(.int (Int32.ofNat n))]) (Wd := 0) (Ctr.pays (len := 3) (Wd := 0) (c_nbl l Z a0 hw hEL hJS hJU aD aL hK hn) w (wd hw 53 rfl) (wd hw 18 rfl) hEL (by decide) (by decide) sfNil) pd0 rfl (st := []) rfl rfl (Nat.le_of_eq rfl) (dc.g 1 rfl) (by decide) (by decide) ?_
  intro vm12 T13 h14 v15 w16 C17 Q18
  obtain ⟨rfl, rfl⟩ := Q18
  show Go κ _ T13 4 #[.val (.int (Int32.ofNat n))] [(.int (Int32.ofNat (2 * n)))]
  refine w16.newarr (aty := .byte) (wd hw 20 rfl) (dc.g 2 rfl) (c := (2 * n)) (nneg_ofNat (by omega)) (clamp_ofNat (by omega)) (cap := 8) (by first | decide | omega) (by first | decide | omega) (by decide) (by decide) rfl rfl ?_
  intro T19 h21 x22 w20 g23 E24 F25 S26
  show Go κ _ T19 6 #[.val (.int (Int32.ofNat n))] [(.ref x22)]
  exact w20.retA rfl rfl rfl rfl (dc.g 3 rfl) (by decide) (by decide) (fun S hS => ⟨(Keep.refl h []).ext E24, _, rfl, by rw [g23]; exact Nat.le_refl _, F25, hS _ F25.lt S26⟩)
def D_putc : List (Nat × Instr × Nat) := [(0, .getstatic 44, 3), (3, .ifCond .ne 25, 3), (6, .iload_n 1, 1), (7, .ifCond .lt 11, 3), (10, .iload_n 1, 1), (11, .aload_n 0, 1), (12, .invokestatic 48, 3), (15, .if_icmp .lt 13, 3), (18, .new 52, 3), (21, .dup, 1), (22, .ldc 54, 2), (24, .invokespecial 56, 3), (27, .athrow, 1), (28, .iload_n 1, 1), (29, .iconst 1, 1), (30, .ishl, 1), (31, .istore_n 1, 1), (32, .aload_n 0, 1), (33, .iload_n 1, 1), (34, .iinc 1 1, 3), (37, .iload_n 2, 1), (38, .getstatic 59, 3), (41, .ishr, 1), (42, .i2b, 1), (43, .bastore, 1), (44, .aload_n 0, 1), (45, .iload_n 1, 1), (46, .iload_n 2, 1), (47, .getstatic 63, 3), (50, .ishr, 1), (51, .i2b, 1), (52, .bastore, 1), (53, .return_, 1)]
theorem hD_putc : ∀ q ∈ D_putc, decode jdk_52_method_4_code q.1 = .ok q.2 := by decide +kernel
set_option maxRecDepth 65536 in
set_option maxHeartbeats 4000000 in
theorem c_putc (l : Launch) (Z : State) (a0 : Array Value) (hw : ∀ d ∈ tables_1, d.before a0 Z = true) (hEL : EW Z a0 []) (hJS : JS Z) (hJU : JU Z) (aD aL : Addr) (hK : KD Z aD aL) {d : Addr} {i : Nat} {c : Int32} {vs : List Int32} {h : Heap} (oz : Ext Z.heap h) (FD : Ary Z h d .byte vs) (hi : 2 * i + 1 < vs.length) (hd0 : Z.heap.size ≤ d) : Ctr l Z [] (⟨"java/lang/StringUTF16", "putChar", "([BII)V"⟩ : MethodName) jdk_52_method_4_code 3 none [] ({ frames := 0, cells := 0, slots := 0, locals := 0 } : Room) [d] #[(.ref d), (.int (Int32.ofNat i)), (.int c)] h (fun v h' S => v = none ∧ Keep h h' [d] ∧ Ary Z h' d .byte ((vs.set (2 * i) (lo0 c)).set (2 * i + 1) (hi8 c))) := by
  refine enter (a0 := a0) (by first | (simp [plainName, overriddenIn]; done) | decide +kernel) hEL (Ls := #[.val (.ref d), .val (.int (Int32.ofNat i)), .val (.int c)]) (fun m => by first | (simp [entryFrame, mkF, argsToLocals, Value.category]; done) | rfl) ?_
  intro κ vm T hby hs w Sf
  have dc := Dec.of hby hD_putc
  show Go κ (GQ κ Z [] ({ frames := 0, cells := 0, slots := 0, locals := 0 } : Room) (fun v h' S => v = none ∧ Keep h h' [d] ∧ Ary Z h' d .byte ((vs.set (2 * i) (lo0 c)).set (2 * i + 1) (hi8 c)))) T 0 #[.val (.ref d), .val (.int (Int32.ofNat i)), .val (.int c)] []
  have hN := FD.small
  have ozs : Ext Z.heap κ.s.heap := by rw [hs]; exact oz
  refine w.gets (wd hw 58 rfl) (hJU.1.ext (w.old ozs)) (dc.g 0 rfl) ?_
  intro T27 w28
  show Go κ _ T27 3 #[.val (.ref d), .val (.int (Int32.ofNat i)), .val (.int c)] [(.int (1 : Int32))]
  refine zNe (pc' := 28) w28.ok (dc.g 1 rfl) (by decide) (by decide) (fun hc29 => ?_) (fun hc29 => absurd hc29 (by decide))
  show Go κ _ T27 28 #[.val (.ref d), .val (.int (Int32.ofNat i)), .val (.int c)] []
  refine blk (pc' := 32) (Ls' := #[.val (.ref d), .val (.int ((Int32.ofNat i) <<< ((1 : Int32) &&& 31))), .val (.int c)]) (st' := []) [oIloadN w28.ok (dc.g 13 rfl), oIconst w28.ok (dc.g 14 rfl), oIshl w28.ok (dc.g 15 rfl), oIstoreN w28.ok (dc.g 16 rfl)] rfl ?_
  rw [ofNat_dbl (by omega)]
  show Go κ _ T27 32 #[.val (.ref d), .val (.int (Int32.ofNat (2 * i))), .val (.int c)] []
  refine blk (pc' := 38) (Ls' := #[.val (.ref d), .val (.int ((Int32.ofNat (2 * i)) + (1 : Int32))), .val (.int c)]) (st' := [(.int c), (.int (Int32.ofNat (2 * i))), (.ref d)]) [oAloadN w28.ok (dc.g 17 rfl), oIloadN w28.ok (dc.g 18 rfl), oIinc w28.ok (dc.g 19 rfl), oIloadN w28.ok (dc.g 20 rfl)] rfl ?_
  refine w28.gets (wd hw 59 rfl) (hJU.2.1.ext (w28.old ozs)) (dc.g 21 rfl) ?_
  intro T30 w31
  show Go κ _ T30 41 #[.val (.ref d), .val (.int ((Int32.ofNat (2 * i)) + (1 : Int32))), .val (.int c)] [(.int (0 : Int32)), (.int c), (.int (Int32.ofNat (2 * i))), (.ref d)]
  refine blk (pc' := 43) (Ls' := #[.val (.ref d), .val (.int ((Int32.ofNat (2 * i)) + (1 : Int32))), .val (.int c)]) (st' := [(.int (((c >>> ((0 : Int32) &&& 31))).toInt8.toInt32)), (.int (Int32.ofNat (2 * i))), (.ref d)]) [oIshr w31.ok (dc.g 22 rfl), oI2b w31.ok (dc.g 23 rfl)] rfl ?_
  refine w31.bst FD (i := (2 * i)) rfl (by omega) (nar_i2b _) (fits_i2b _) (Sf d (List.mem_singleton.mpr rfl)) hd0 (dc.g 24 rfl) ?_
  intro T32 h34 w33 W35 F36 S37
  show Go κ _ T32 44 #[.val (.ref d), .val (.int ((Int32.ofNat (2 * i)) + (1 : Int32))), .val (.int c)] []
  obtain ⟨slW35, vvW35, WW35⟩ := W35
  refine blk (pc' := 47) (Ls' := #[.val (.ref d), .val (.int ((Int32.ofNat (2 * i)) + (1 : Int32))), .val (.int c)]) (st' := [(.int c), (.int ((Int32.ofNat (2 * i)) + (1 : Int32))), (.ref d)]) [oAloadN w33.ok (dc.g 25 rfl), oIloadN w33.ok (dc.g 26 rfl), oIloadN w33.ok (dc.g 27 rfl)] rfl ?_
  refine w33.gets (wd hw 60 rfl) (hJU.2.2.ext (w33.old ozs)) (dc.g 28 rfl) ?_
  intro T38 w39
  show Go κ _ T38 50 #[.val (.ref d), .val (.int ((Int32.ofNat (2 * i)) + (1 : Int32))), .val (.int c)] [(.int (8 : Int32)), (.int c), (.int ((Int32.ofNat (2 * i)) + (1 : Int32))), (.ref d)]
  refine blk (pc' := 52) (Ls' := #[.val (.ref d), .val (.int ((Int32.ofNat (2 * i)) + (1 : Int32))), .val (.int c)]) (st' := [(.int (((c >>> ((8 : Int32) &&& 31))).toInt8.toInt32)), (.int ((Int32.ofNat (2 * i)) + (1 : Int32))), (.ref d)]) [oIshr w39.ok (dc.g 29 rfl), oI2b w39.ok (dc.g 30 rfl)] rfl ?_
  refine w39.bst F36 (i := (2 * i + 1)) (ofNat_succ) (by rw [List.length_set]; omega) (nar_i2b _) (fits_i2b _) S37 hd0 (dc.g 31 rfl) ?_
  intro T40 h42 w41 W43 F44 S45
  show Go κ _ T40 53 #[.val (.ref d), .val (.int ((Int32.ofNat (2 * i)) + (1 : Int32))), .val (.int c)] []
  obtain ⟨slW43, vvW43, WW43⟩ := W43
  exact w41.retV (dc.g 32 rfl) (by decide) (by decide) (fun S hS => ⟨rfl, ((Keep.refl h [d]).wr WW35 (Or.inl (List.mem_of_getElem? (i := 0) rfl))).wr WW43 (Or.inl (List.mem_of_getElem? (i := 0) rfl)), F44⟩)
def D_getc : List (Nat × Instr × Nat) := [(0, .getstatic 44, 3), (3, .ifCond .ne 25, 3), (6, .iload_n 1, 1), (7, .ifCond .lt 11, 3), (10, .iload_n 1, 1), (11, .aload_n 0, 1), (12, .invokestatic 48, 3), (15, .if_icmp .lt 13, 3), (18, .new 52, 3), (21, .dup, 1), (22, .ldc 54, 2), (24, .invokespecial 56, 3), (27, .athrow, 1), (28, .iload_n 1, 1), (29, .iconst 1, 1), (30, .ishl, 1), (31, .istore_n 1, 1), (32, .aload_n 0, 1), (33, .iload_n 1, 1), (34, .iinc 1 1, 3), (37, .baload, 1), (38, .sipush 255, 3), (41, .iand, 1), (42, .getstatic 59, 3), (45, .ishl, 1), (46, .aload_n 0, 1), (47, .iload_n 1, 1), (48, .baload, 1), (49, .sipush 255, 3), (52, .iand, 1), (53, .getstatic 63, 3), (56, .ishl, 1), (57, .ior, 1), (58, .i2c, 1), (59, .ireturn, 1)]
theorem hD_getc : ∀ q ∈ D_getc, decode jdk_52_method_5_code q.1 = .ok q.2 := by decide +kernel
set_option maxRecDepth 65536 in
set_option maxHeartbeats 4000000 in
theorem c_getc (l : Launch) (Z : State) (a0 : Array Value) (hw : ∀ d ∈ tables_1, d.before a0 Z = true) (hEL : EW Z a0 []) (hJS : JS Z) (hJU : JU Z) (aD aL : Addr) (hK : KD Z aD aL) {d : Addr} {i : Nat} {c : Int32} {cs : List Int32} {h : Heap} (oz : Ext Z.heap h) (FD : Ary Z h d .byte (u16 cs)) (hi : cs[i]? = some c) (hc : IsC cs) : Ctr l Z [] (⟨"java/lang/StringUTF16", "getChar", "([BI)C"⟩ : MethodName) jdk_52_method_5_code 2 (some .char) [] ({ frames := 0, cells := 0, slots := 0, locals := 0 } : Room) [] #[(.ref d), (.int (Int32.ofNat i))] h (fun v h' S => h = h' ∧ v = some (.int c)) := by
  refine enter (a0 := a0) (by first | (simp [plainName, overriddenIn]; done) | decide +kernel) hEL (Ls := #[.val (.ref d), .val (.int (Int32.ofNat i))]) (fun m => by first | (simp [entryFrame, mkF, argsToLocals, Value.category]; done) | rfl) ?_
  intro κ vm T hby hs w Sf
  have dc := Dec.of hby hD_getc
  show Go κ (GQ κ Z [] ({ frames := 0, cells := 0, slots := 0, locals := 0 } : Room) (fun v h' S => h = h' ∧ v = some (.int c))) T 0 #[.val (.ref d), .val (.int (Int32.ofNat i))] []
  have hN := FD.small
  rw [u16_len] at hN
  have hl := (List.getElem?_eq_some_iff.mp hi).1
  have ozs : Ext Z.heap κ.s.heap := by rw [hs]; exact oz
  have hcc := hc c (List.mem_of_getElem? hi)
  obtain ⟨e0, e1⟩ := u16_at cs i c hi
  refine w.gets (wd hw 58 rfl) (hJU.1.ext (w.old ozs)) (dc.g 0 rfl) ?_
  intro T46 w47
  show Go κ _ T46 3 #[.val (.ref d), .val (.int (Int32.ofNat i))] [(.int (1 : Int32))]
  refine zNe (pc' := 28) w47.ok (dc.g 1 rfl) (by decide) (by decide) (fun hc48 => ?_) (fun hc48 => absurd hc48 (by decide))
  show Go κ _ T46 28 #[.val (.ref d), .val (.int (Int32.ofNat i))] []
  refine blk (pc' := 32) (Ls' := #[.val (.ref d), .val (.int ((Int32.ofNat i) <<< ((1 : Int32) &&& 31)))]) (st' := []) [oIloadN w47.ok (dc.g 13 rfl), oIconst w47.ok (dc.g 14 rfl), oIshl w47.ok (dc.g 15 rfl), oIstoreN w47.ok (dc.g 16 rfl)] rfl ?_
  rw [ofNat_dbl (by omega)]
  show Go κ _ T46 32 #[.val (.ref d), .val (.int (Int32.ofNat (2 * i)))] []
  refine blk (pc' := 37) (Ls' := #[.val (.ref d), .val (.int ((Int32.ofNat (2 * i)) + (1 : Int32)))]) (st' := [(.int (Int32.ofNat (2 * i))), (.ref d)]) [oAloadN w47.ok (dc.g 17 rfl), oIloadN w47.ok (dc.g 18 rfl), oIinc w47.ok (dc.g 19 rfl)] rfl ?_
  refine w47.bld FD (i := (2 * i)) rfl e0 (dc.g 20 rfl) ?_
  show Go κ _ T46 38 #[.val (.ref d), .val (.int ((Int32.ofNat (2 * i)) + (1 : Int32)))] [(.int (lo0 c))]
  refine blk (pc' := 42) (Ls' := #[.val (.ref d), .val (.int ((Int32.ofNat (2 * i)) + (1 : Int32)))]) (st' := [(.int ((lo0 c) &&& (255 : Int32)))]) [oSipush w47.ok (dc.g 21 rfl), oIand w47.ok (dc.g 22 rfl)] rfl ?_
  refine w47.gets (wd hw 59 rfl) (hJU.2.1.ext (w47.old ozs)) (dc.g 23 rfl) ?_
  intro T49 w50
  show Go κ _ T49 45 #[.val (.ref d), .val (.int ((Int32.ofNat (2 * i)) + (1 : Int32)))] [(.int (0 : Int32)), (.int ((lo0 c) &&& (255 : Int32)))]
  refine blk (pc' := 48) (Ls' := #[.val (.ref d), .val (.int ((Int32.ofNat (2 * i)) + (1 : Int32)))]) (st' := [(.int ((Int32.ofNat (2 * i)) + (1 : Int32))), (.ref d), (.int (((lo0 c) &&& (255 : Int32)) <<< ((0 : Int32) &&& 31)))]) [oIshl w50.ok (dc.g 24 rfl), oAloadN w50.ok (dc.g 25 rfl), oIloadN w50.ok (dc.g 26 rfl)] rfl ?_
  refine w50.bld FD (i := (2 * i + 1)) (ofNat_succ) e1 (dc.g 27 rfl) ?_
  show Go κ _ T49 49 #[.val (.ref d), .val (.int ((Int32.ofNat (2 * i)) + (1 : Int32)))] [(.int (hi8 c)), (.int (((lo0 c) &&& (255 : Int32)) <<< ((0 : Int32) &&& 31)))]
  refine blk (pc' := 53) (Ls' := #[.val (.ref d), .val (.int ((Int32.ofNat (2 * i)) + (1 : Int32)))]) (st' := [(.int ((hi8 c) &&& (255 : Int32))), (.int (((lo0 c) &&& (255 : Int32)) <<< ((0 : Int32) &&& 31)))]) [oSipush w50.ok (dc.g 28 rfl), oIand w50.ok (dc.g 29 rfl)] rfl ?_
  refine w50.gets (wd hw 60 rfl) (hJU.2.2.ext (w50.old ozs)) (dc.g 30 rfl) ?_
  intro T51 w52
  show Go κ _ T51 56 #[.val (.ref d), .val (.int ((Int32.ofNat (2 * i)) + (1 : Int32)))] [(.int (8 : Int32)), (.int ((hi8 c) &&& (255 : Int32))), (.int (((lo0 c) &&& (255 : Int32)) <<< ((0 : Int32) &&& 31)))]
  refine blk (pc' := 59) (Ls' := #[.val (.ref d), .val (.int ((Int32.ofNat (2 * i)) + (1 : Int32)))]) (st' := [(.int ((((((lo0 c) &&& (255 : Int32)) <<< ((0 : Int32) &&& 31)) ||| (((hi8 c) &&& (255 : Int32)) <<< ((8 : Int32) &&& 31)))).toUInt32.toUInt16.toUInt32.toInt32))]) [oIshl w52.ok (dc.g 31 rfl), oIor w52.ok (dc.g 32 rfl), oI2c w52.ok (dc.g 33 rfl)] rfl ?_
  rw [getc hcc.1 hcc.2]
  show Go κ _ T51 59 #[.val (.ref d), .val (.int ((Int32.ofNat (2 * i)) + (1 : Int32)))] [(.int c)]
  exact w52.retI (t := .char) rfl (Or.inr (Or.inr (Or.inr (Or.inl rfl)))) (narrow_char hcc.1 hcc.2) (dc.g 34 rfl) (by decide) (by decide) (fun S hS => ⟨rfl, rfl⟩)
def D_tobs : List (Nat × Instr × Nat) := [(0, .iload_n 2, 1), (1, .invokestatic 107, 3), (4, .astore_n 3, 1), (5, .iconst 0, 1), (6, .istore 4, 2), (8, .iload 4, 2), (10, .iload_n 2, 1), (11, .if_icmp .ge 21, 3), (14, .aload_n 3, 1), (15, .iload 4, 2), (17, .aload_n 0, 1), (18, .iload_n 1, 1), (19, .caload, 1), (20, .invokestatic 111, 3), (23, .iinc 1 1, 3), (26, .iinc 4 1, 3), (29, .goto (-21), 3), (32, .aload_n 3, 1), (33, .areturn, 1)]
theorem hD_tobs : ∀ q ∈ D_tobs, decode jdk_52_method_14_code q.1 = .ok q.2 := by decide +kernel
set_option maxRecDepth 65536 in
set_option maxHeartbeats 4000000 in
theorem c_tobs (l : Launch) (Z : State) (a0 : Array Value) (hw : ∀ d ∈ tables_1, d.before a0 Z = true) (hEL : EW Z a0 []) (hJS : JS Z) (hJU : JU Z) (aD aL : Addr) (hK : KD Z aD aL) {A : Addr} {cs : List Int32} {h : Heap} (oz : Ext Z.heap h) (FA : Ary Z h A .char cs) (hn : cs.length ≤ 4) : Ctr l Z [] (⟨"java/lang/StringUTF16", "toBytes", "([CII)[B"⟩ : MethodName) jdk_52_method_14_code 5 (some (.array .byte)) [] ({ frames := 2, cells := 1, slots := 8, locals := 26 } : Room) [] #[(.ref A), (.int (0 : Int32)), (.int (Int32.ofNat cs.length))] h (fun v h' S => Keep h h' [] ∧ ∃ x, v = some (.ref x) ∧ Ary Z h' x .byte (u16 cs)) := by
  refine enter (a0 := a0) (by first | (simp [plainName, overriddenIn]; done) | decide +kernel) hEL (Ls := #[.val (.ref A), .val (.int (0 : Int32)), .val (.int (Int32.ofNat cs.length)), .unset, .unset]) (fun m => by first | (simp [entryFrame, mkF, argsToLocals, Value.category]; done) | rfl) ?_
  intro κ vm T hby hs w Sf
  have dc := Dec.of hby hD_tobs
  show Go κ (GQ κ Z [] ({ frames := 2, cells := 1, slots := 8, locals := 26 } : Room) (fun v h' S => Keep h h' [] ∧ ∃ x, v = some (.ref x) ∧ Ary Z h' x .byte (u16 cs))) T 0 #[.val (.ref A), .val (.int (0 : Int32)), .val (.int (Int32.ofNat cs.length)), .unset, .unset] []
  have ozs : Ext Z.heap κ.s.heap := by rw [hs]; exact oz
  refine blk (pc' := 1) (Ls' := #[.val (.ref A), .val (.int (0 : Int32)), .val (.int (Int32.ofNat cs.length)), .unset, .unset]) (st' := [(.int (Int32.ofNat cs.length))]) [oIloadN w.ok (dc.g 0 rfl)] rfl ?_
  refine w.callS (wd hw 48 rfl) (wd hw 49 rfl) (wd hw 18 rfl) (wd hw 50 rfl) (by decide) (argsL := [(.int (Int32.ofNat cs.length))]) (Wd := 0) (Ctr.pays (len := 3) (Wd := 0) (c_nbf l Z a0 hw hEL hJS hJU aD aL hK hn) w (wd hw 50 rfl) (wd hw 18 rfl) hEL (by decide) (by decide) sfNil) pd1 rfl (st := []) rfl rfl (Nat.le_of_eq rfl) (dc.g 1 rfl) (by decide) (by decide) ?_
  intro vm53 T54 h55 v56 w57 C58 Q59
  obtain ⟨K2, x, rfl, gx, FX, SX⟩ := Q59
  show Go κ _ T54 4 #[.val (.ref A), .val (.int (0 : Int32)), .val (.int (Int32.ofNat cs.length)), .unset, .unset] [(.ref x)]
  refine blk (pc' := 8) (Ls' := #[.val (.ref A), .val (.int (0 : Int32)), .val (.int (Int32.ofNat cs.length)), .val (.ref x), .val (.int (0 : Int32))]) (st' := []) [oAstoreN w57.ok (dc.g 2 rfl), oIconst w57.ok (dc.g 3 rfl), oIstore w57.ok (dc.g 4 rfl)] rfl ?_
  have key : ∀ (f i : Nat), i + f = cs.length → ∀ (vm1 : Vm) (T1 : State) (h1 : Heap), W κ l ({ frames := 2, cells := 1, slots := 8, locals := 26 } : Room) Z [] "java/lang/StringUTF16" "toBytes" 5 (some (.array .byte)) vm1 T1 h1 (0 + 1) (0 + 8) → Ary Z h1 A .char cs → Ary Z h1 x .byte (u16 (cs.take i) ++ List.replicate (2 * f) 0) → Keep h h1 [] → Safe Z [] vm1 h1 x → Go κ (GQ κ Z [] ({ frames := 2, cells := 1, slots := 8, locals := 26 } : Room) (fun v h' S => Keep h h' [] ∧ ∃ x, v = some (.ref x) ∧ Ary Z h' x .byte (u16 cs))) T1 8 #[.val (.ref A), .val (.int (Int32.ofNat i)), .val (.int (Int32.ofNat cs.length)), .val (.ref x), .val (.int (Int32.ofNat i))] [] := by
    intro f
    induction f with
    | zero =>
      intro i hi vm1 T1 h1 w1 GA GD K S
      obtain rfl : i = cs.length := by omega
      show Go κ _ T1 8 #[.val (.ref A), .val (.int (Int32.ofNat cs.length)), .val (.int (Int32.ofNat cs.length)), .val (.ref x), .val (.int (Int32.ofNat cs.length))] []
      refine blk (pc' := 11) (Ls' := #[.val (.ref A), .val (.int (Int32.ofNat cs.length)), .val (.int (Int32.ofNat cs.length)), .val (.ref x), .val (.int (Int32.ofNat cs.length))]) (st' := [(.int (Int32.ofNat cs.length)), (.int (Int32.ofNat cs.length))]) [oIload w1.ok (dc.g 5 rfl), oIloadN w1.ok (dc.g 6 rfl)] rfl ?_
      refine cGe (pc' := 32) w1.ok (dc.g 7 rfl) (by decide) (by decide) (fun hc60 => ?_) (fun hc60 => absurd hc60 (fun q => absurd q (by rw [ofNat_lt (by omega) (by omega)]; omega)))
      show Go κ _ T1 32 #[.val (.ref A), .val (.int (Int32.ofNat cs.length)), .val (.int (Int32.ofNat cs.length)), .val (.ref x), .val (.int (Int32.ofNat cs.length))] []
      refine blk (pc' := 33) (Ls' := #[.val (.ref A), .val (.int (Int32.ofNat cs.length)), .val (.int (Int32.ofNat cs.length)), .val (.ref x), .val (.int (Int32.ofNat cs.length))]) (st' := [(.ref x)]) [oAloadN w1.ok (dc.g 17 rfl)] rfl ?_
      exact w1.retA rfl rfl rfl rfl (dc.g 18 rfl) (by decide) (by decide) (fun S hS => ⟨K, x, rfl, by simpa using GD⟩)
    | succ f ih =>
      intro i hi vm1 T1 h1 w1 GA GD K S
      obtain ⟨c, hc⟩ : ∃ c, cs[i]? = some c := ⟨_, List.getElem?_eq_getElem (by omega)⟩
      show Go κ _ T1 8 #[.val (.ref A), .val (.int (Int32.ofNat i)), .val (.int (Int32.ofNat cs.length)), .val (.ref x), .val (.int (Int32.ofNat i))] []
      refine blk (pc' := 11) (Ls' := #[.val (.ref A), .val (.int (Int32.ofNat i)), .val (.int (Int32.ofNat cs.length)), .val (.ref x), .val (.int (Int32.ofNat i))]) (st' := [(.int (Int32.ofNat cs.length)), (.int (Int32.ofNat i))]) [oIload w1.ok (dc.g 5 rfl), oIloadN w1.ok (dc.g 6 rfl)] rfl ?_
      refine cGe (pc' := 32) w1.ok (dc.g 7 rfl) (by decide) (by decide) (fun hc61 => absurd ((ofNat_lt (by omega) (by omega)).mpr (by omega)) hc61) (fun hc61 => ?_)
      show Go κ _ T1 14 #[.val (.ref A), .val (.int (Int32.ofNat i)), .val (.int (Int32.ofNat cs.length)), .val (.ref x), .val (.int (Int32.ofNat i))] []
      refine blk (pc' := 19) (Ls' := #[.val (.ref A), .val (.int (Int32.ofNat i)), .val (.int (Int32.ofNat cs.length)), .val (.ref x), .val (.int (Int32.ofNat i))]) (st' := [(.int (Int32.ofNat i)), (.ref A), (.int (Int32.ofNat i)), (.ref x)]) [oAloadN w1.ok (dc.g 8 rfl), oIload w1.ok (dc.g 9 rfl), oAloadN w1.ok (dc.g 10 rfl), oIloadN w1.ok (dc.g 11 rfl)] rfl ?_
      refine w1.cld GA (i := i) rfl hc (dc.g 12 rfl) ?_
      show Go κ _ T1 20 #[.val (.ref A), .val (.int (Int32.ofNat i)), .val (.int (Int32.ofNat cs.length)), .val (.ref x), .val (.int (Int32.ofNat i))] [(.int c), (.int (Int32.ofNat i)), (.ref x)]
      have el : (cs.take i).length = i := by rw [List.length_take]; omega
      have hx0 : Z.heap.size ≤ x := Nat.le_trans oz.1 gx
      refine w1.callS (wd hw 55 rfl) (wd hw 56 rfl) (wd hw 18 rfl) (wd hw 57 rfl) (by decide) (argsL := [(.ref x), (.int (Int32.ofNat i)), (.int c)]) (Wd := 0) (Ctr.pays (len := 3) (Wd := 0) (c_putc l Z a0 hw hEL hJS hJU aD aL hK (i := i) (w1.old ozs) GD (by rw [List.length_append, u16_len, el, List.length_replicate]; omega) hx0) w1 (wd hw 57 rfl) (wd hw 18 rfl) hEL (by decide) (by decide) (sfOne GD.lt S)) pd2 rfl (st := []) rfl rfl (Nat.le_of_eq rfl) (dc.g 13 rfl) (by decide) (by decide) ?_
      intro vm62 T63 h64 v65 w66 C67 Q68
      obtain ⟨rfl, K3, GD3⟩ := Q68
      show Go κ _ T63 23 #[.val (.ref A), .val (.int (Int32.ofNat i)), .val (.int (Int32.ofNat cs.length)), .val (.ref x), .val (.int (Int32.ofNat i))] []
      refine blk (pc' := 8) (Ls' := #[.val (.ref A), .val (.int ((Int32.ofNat i) + (1 : Int32))), .val (.int (Int32.ofNat cs.length)), .val (.ref x), .val (.int ((Int32.ofNat i) + (1 : Int32)))]) (st' := []) [oIinc w66.ok (dc.g 14 rfl), oIinc w66.ok (dc.g 15 rfl), oGoto w66.ok 8 (dc.g 16 rfl)] rfl ?_
      rw [ofNat_succ]
      refine ih (i + 1) (by omega) _ _ _ (w66.mono (by decide) (by decide)) (GA.keep K3 (ninS (GA.ne_ty GD (by decide)) nin0)) ?_ (K.trans K3 (allS (Or.inr gx) all0)) (C67.safe GD.lt S)
      have := set_u16 (pre := cs.take i) (k := f) (a := lo0 c) (b := hi8 c)
      rw [el] at this
      rw [this] at GD3
      rw [take_succ hc, u16_app, List.append_assoc]; exact GD3
  exact key cs.length 0 (by omega) _ _ _ w57 (FA.keep K2 nin0) (by simpa [u16] using FX) K2 SX
def D_cmp3 : List (Nat × Instr × Nat) := [(0, .iload_n 2, 1), (1, .newarray .byte, 2), (3, .astore_n 3, 1), (4, .aload_n 0, 1), (5, .iload_n 1, 1), (6, .aload_n 3, 1), (7, .iconst 0, 1), (8, .iload_n 2, 1), (9, .invokestatic 115, 3), (12, .istore 4, 2), (14, .iload 4, 2), (16, .iload_n 2, 1), (17, .if_icmp .eq 40, 3), (20, .aload_n 0, 1), (21, .iload_n 1, 1), (22, .iload_n 2, 1), (23, .invokestatic 119, 3), (26, .astore 5, 2), (28, .aload 5, 2), (30, .iload 4, 2), (32, .invokestatic 71, 3), (35, .sipush 255, 3), (38, .if_icmp .gt 16, 3), (41, .aload 5, 2), (43, .iconst 0, 1), (44, .aload_n 3, 1), (45, .iconst 0, 1), (46, .iload_n 2, 1), (47, .invokestatic 123, 3), (50, .iload_n 2, 1), (51, .if_icmp .eq 6, 3), (54, .aload 5, 2), (56, .areturn, 1), (57, .aload_n 3, 1), (58, .areturn, 1)]
theorem hD_cmp3 : ∀ q ∈ D_cmp3, decode jdk_52_method_16_code q.1 = .ok q.2 := by decide +kernel
set_option maxRecDepth 65536 in
set_option maxHeartbeats 4000000 in
theorem c_cmp3 (l : Launch) (Z : State) (a0 : Array Value) (hw : ∀ d ∈ tables_1, d.before a0 Z = true) (hEL : EW Z a0 []) (hJS : JS Z) (hJU : JU Z) (aD aL : Addr) (hK : KD Z aD aL) {A : Addr} {cs : List Int32} {h : Heap} (oz : Ext Z.heap h) (FA : Ary Z h A .char cs) (hn : cs.length ≤ 4) : Ctr l Z [] (⟨"java/lang/StringUTF16", "compress", "([CII)[B"⟩ : MethodName) jdk_52_method_16_code 6 (some (.array .byte)) [] ({ frames := 3, cells := 2, slots := 12, locals := 42 } : Room) [] #[(.ref A), (.int (0 : Int32)), (.int (Int32.ofNat cs.length))] h (fun v h' S => Keep h h' [] ∧ ∃ x, v = some (.ref x) ∧ ((IsL cs ∧ Ary Z h' x .byte (cs.map lo8)) ∨ (¬ IsL cs ∧ Ary Z h' x .byte (u16 cs)))) := by
  refine enter (a0 := a0) (by first | (simp [plainName, overriddenIn]; done) | decide +kernel) hEL (Ls := #[.val (.ref A), .val (.int (0 : Int32)), .val (.int (Int32.ofNat cs.length)), .unset, .unset, .unset]) (fun m => by first | (simp [entryFrame, mkF, argsToLocals, Value.category]; done) | rfl) ?_
  intro κ vm T hby hs w Sf
  have dc := Dec.of hby hD_cmp3
  show Go κ (GQ κ Z [] ({ frames := 3, cells := 2, slots := 12, locals := 42 } : Room) (fun v h' S => Keep h h' [] ∧ ∃ x, v = some (.ref x) ∧ ((IsL cs ∧ Ary Z h' x .byte (cs.map lo8)) ∨ (¬ IsL cs ∧ Ary Z h' x .byte (u16 cs))))) T 0 #[.val (.ref A), .val (.int (0 : Int32)), .val (.int (Int32.ofNat cs.length)), .unset, .unset, .unset] []
  have ozs : Ext Z.heap κ.s.heap := by rw [hs]; exact oz
  have hIC := FA.isC
  refine blk (pc' := 1) (Ls' := #[.val (.ref A), .val (.int (0 : Int32)), .val (.int (Int32.ofNat cs.length)), .unset, .unset, .unset]) (st' := [(.int (Int32.ofNat cs.length))]) [oIloadN w.ok (dc.g 0 rfl)] rfl ?_
  refine w.newarr (aty := .byte) (wd hw 20 rfl) (dc.g 1 rfl) (c := cs.length) (nneg_ofNat (by omega)) (clamp_ofNat (by omega)) (cap := 4) (by first | decide | omega) (by first | decide | omega) (by decide) (by decide) rfl rfl ?_
  intro T69 h71 x72 w70 g73 E74 F75 S76
  show Go κ _ T69 3 #[.val (.ref A), .val (.int (0 : Int32)), .val (.int (Int32.ofNat cs.length)), .unset, .unset, .unset] [(.ref x72)]
  refine blk (pc' := 9) (Ls' := #[.val (.ref A), .val (.int (0 : Int32)), .val (.int (Int32.ofNat cs.length)), .val (.ref x72), .unset, .unset]) (st' := [(.int (Int32.ofNat cs.length)), (.int (0 : Int32)), (.ref x72), (.int (0 : Int32)), (.ref A)]) [oAstoreN w70.ok (dc.g 2 rfl), oAloadN w70.ok (dc.g 3 rfl), oIloadN w70.ok (dc.g 4 rfl), oAloadN w70.ok (dc.g 5 rfl), oIconst w70.ok (dc.g 6 rfl), oIloadN w70.ok (dc.g 7 rfl)] rfl ?_
  refine w70.callS (wd hw 21 rfl) (wd hw 22 rfl) (wd hw 18 rfl) (wd hw 23 rfl) (by decide) (argsL := [(.ref A), (.int (0 : Int32)), (.ref x72), (.int (0 : Int32)), (.int (Int32.ofNat cs.length))]) (Wd := 0) (Ctr.pays (len := 3) (Wd := 0) (c_cmp5 l Z a0 hw hEL hJS hJU aD aL hK (FA.ext E74) F75 (by rw [g73]; exact oz.1)) w70 (wd hw 23 rfl) (wd hw 18 rfl) hEL (by decide) (by decide) (sfOne F75.lt S76)) pd3 rfl (st := []) rfl rfl (Nat.le_of_eq rfl) (dc.g 8 rfl) (by decide) (by decide) ?_
  intro vm77 T78 h79 v80 w81 C82 Q83
  obtain ⟨r, hr, rfl, K2, hlt, hge, hall⟩ := Q83
  show Go κ _ T78 12 #[.val (.ref A), .val (.int (0 : Int32)), .val (.int (Int32.ofNat cs.length)), .val (.ref x72), .unset, .unset] [(.int (Int32.ofNat r))]
  refine blk (pc' := 17) (Ls' := #[.val (.ref A), .val (.int (0 : Int32)), .val (.int (Int32.ofNat cs.length)), .val (.ref x72), .val (.int (Int32.ofNat r)), .unset]) (st' := [(.int (Int32.ofNat cs.length)), (.int (Int32.ofNat r))]) [oIstore w81.ok (dc.g 9 rfl), oIload w81.ok (dc.g 10 rfl), oIloadN w81.ok (dc.g 11 rfl)] rfl ?_
  have K0 : Keep h h79 [] := ((Keep.refl h []).ext E74).trans K2 (allS (Or.inr (by rw [g73]; exact Nat.le_refl _)) all0)
  refine cEq (pc' := 57) w81.ok (dc.g 12 rfl) (by decide) (by decide) (fun hc84 => ?_) (fun hc84 => ?_)
  · show Go κ _ T78 57 #[.val (.ref A), .val (.int (0 : Int32)), .val (.int (Int32.ofNat cs.length)), .val (.ref x72), .val (.int (Int32.ofNat r)), .unset] []
    have er : r = cs.length := (ofNat_inj (by omega) (by omega)).mp hc84
    refine blk (pc' := 58) (Ls' := #[.val (.ref A), .val (.int (0 : Int32)), .val (.int (Int32.ofNat cs.length)), .val (.ref x72), .val (.int (Int32.ofNat r)), .unset]) (st' := [(.ref x72)]) [oAloadN w81.ok (dc.g 33 rfl)] rfl ?_
    exact w81.retA rfl rfl rfl rfl (dc.g 34 rfl) (by decide) (by decide) (fun S hS => ⟨K0, _, rfl, Or.inl ⟨isL_of hIC (by rw [← er]; exact hlt), hall er⟩⟩)
  · show Go κ _ T78 20 #[.val (.ref A), .val (.int (0 : Int32)), .val (.int (Int32.ofNat cs.length)), .val (.ref x72), .val (.int (Int32.ofNat r)), .unset] []
    have er : r < cs.length := (Nat.lt_or_eq_of_le hr).elim id (fun q => absurd (by rw [q]) hc84)
    obtain ⟨c, hc1, hc2⟩ := hge er
    refine blk (pc' := 23) (Ls' := #[.val (.ref A), .val (.int (0 : Int32)), .val (.int (Int32.ofNat cs.length)), .val (.ref x72), .val (.int (Int32.ofNat r)), .unset]) (st' := [(.int (Int32.ofNat cs.length)), (.int (0 : Int32)), (.ref A)]) [oAloadN w81.ok (dc.g 13 rfl), oIloadN w81.ok (dc.g 14 rfl), oIloadN w81.ok (dc.g 15 rfl)] rfl ?_
    refine w81.callS (wd hw 45 rfl) (wd hw 46 rfl) (wd hw 18 rfl) (wd hw 47 rfl) (by decide) (argsL := [(.ref A), (.int (0 : Int32)), (.int (Int32.ofNat cs.length))]) (Wd := 0) (Ctr.pays (len := 3) (Wd := 0) (c_tobs l Z a0 hw hEL hJS hJU aD aL hK (w81.old ozs) (FA.keep K0 nin0) hn) w81 (wd hw 47 rfl) (wd hw 18 rfl) hEL (by decide) (by decide) sfNil) pd4 rfl (st := []) rfl rfl (Nat.le_of_eq rfl) (dc.g 16 rfl) (by decide) (by decide) ?_
    intro vm85 T86 h87 v88 w89 C90 Q91
    obtain ⟨K3, y, rfl, FY⟩ := Q91
    show Go κ _ T86 26 #[.val (.ref A), .val (.int (0 : Int32)), .val (.int (Int32.ofNat cs.length)), .val (.ref x72), .val (.int (Int32.ofNat r)), .unset] [(.ref y)]
    refine blk (pc' := 32) (Ls' := #[.val (.ref A), .val (.int (0 : Int32)), .val (.int (Int32.ofNat cs.length)), .val (.ref x72), .val (.int (Int32.ofNat r)), .val (.ref y)]) (st' := [(.int (Int32.ofNat r)), (.ref y)]) [oAstore w89.ok (dc.g 17 rfl), oAload w89.ok (dc.g 18 rfl), oIload w89.ok (dc.g 19 rfl)] rfl ?_
    refine w89.callS (wd hw 61 rfl) (wd hw 62 rfl) (wd hw 18 rfl) (wd hw 63 rfl) (by decide) (argsL := [(.ref y), (.int (Int32.ofNat r))]) (Wd := 0) (Ctr.pays (len := 3) (Wd := 0) (c_getc l Z a0 hw hEL hJS hJU aD aL hK (i := r) (w89.old ozs) FY hc1 hIC) w89 (wd hw 63 rfl) (wd hw 18 rfl) hEL (by decide) (by decide) sfNil) pd5 rfl (st := []) rfl rfl (Nat.le_of_eq rfl) (dc.g 20 rfl) (by decide) (by decide) ?_
    intro vm92 T93 h94 v95 w96 C97 Q98
    obtain ⟨e4, rfl⟩ := Q98
    subst e4
    show Go κ _ T93 35 #[.val (.ref A), .val (.int (0 : Int32)), .val (.int (Int32.ofNat cs.length)), .val (.ref x72), .val (.int (Int32.ofNat r)), .val (.ref y)] [(.int c)]
    refine blk (pc' := 38) (Ls' := #[.val (.ref A), .val (.int (0 : Int32)), .val (.int (Int32.ofNat cs.length)), .val (.ref x72), .val (.int (Int32.ofNat r)), .val (.ref y)]) (st' := [(.int (255 : Int32)), (.int c)]) [oSipush w96.ok (dc.g 21 rfl)] rfl ?_
    refine cGt (pc' := 54) w96.ok (dc.g 22 rfl) (by decide) (by decide) (fun hc99 => ?_) (fun hc99 => absurd hc2 hc99)
    show Go κ _ T93 54 #[.val (.ref A), .val (.int (0 : Int32)), .val (.int (Int32.ofNat cs.length)), .val (.ref x72), .val (.int (Int32.ofNat r)), .val (.ref y)] []
    refine blk (pc' := 56) (Ls' := #[.val (.ref A), .val (.int (0 : Int32)), .val (.int (Int32.ofNat cs.length)), .val (.ref x72), .val (.int (Int32.ofNat r)), .val (.ref y)]) (st' := [(.ref y)]) [oAload w96.ok (dc.g 31 rfl)] rfl ?_
    exact w96.retA rfl rfl rfl rfl (dc.g 32 rfl) (by decide) (by decide) (fun S hS => ⟨K0.trans K3 all0, _, rfl, Or.inr ⟨not_isL hc1 hc2, FY⟩⟩)
def D_codl : List (Nat × Instr × Nat) := [(0, .iload_n 1, 1), (1, .aload_n 0, 1), (2, .arraylength, 1), (3, .isub, 1), (4, .bipush 31, 2), (6, .iushr, 1), (7, .i2b, 1), (8, .ireturn, 1)]
theorem hD_codl : ∀ q ∈ D_codl, decode jdk_52_method_15_code q.1 = .ok q.2 := by decide +kernel
set_option maxRecDepth 65536 in
set_option maxHeartbeats 4000000 in
theorem c_codl (l : Launch) (Z : State) (a0 : Array Value) (hw : ∀ d ∈ tables_1, d.before a0 Z = true) (hEL : EW Z a0 []) (hJS : JS Z) (hJU : JU Z) (aD aL : Addr) (hK : KD Z aD aL) {y : Addr} {vs : List Int32} {n : Nat} {r : Int32} {h : Heap} (F : Ary Z h y .byte vs) (hm : (vs.length = n ∧ r = 0) ∨ (vs.length = 2 * n ∧ 0 < n ∧ r = 1)) : Ctr l Z [] (⟨"java/lang/StringUTF16", "coderFromArrayLen", "([BI)B"⟩ : MethodName) jdk_52_method_15_code 2 (some .byte) [] ({ frames := 0, cells := 0, slots := 0, locals := 0 } : Room) [] #[(.ref y), (.int (Int32.ofNat n))] h (fun v h' S => h = h' ∧ v = some (.int r)) := by
  refine enter (a0 := a0) (by first | (simp [plainName, overriddenIn]; done) | decide +kernel) hEL (Ls := #[.val (.ref y), .val (.int (Int32.ofNat n))]) (fun m => by first | (simp [entryFrame, mkF, argsToLocals, Value.category]; done) | rfl) ?_
  intro κ vm T hby hs w Sf
  have dc := Dec.of hby hD_codl
  show Go κ (GQ κ Z [] ({ frames := 0, cells := 0, slots := 0, locals := 0 } : Room) (fun v h' S => h = h' ∧ v = some (.int r))) T 0 #[.val (.ref y), .val (.int (Int32.ofNat n))] []
  have hN := F.small
  refine blk (pc' := 2) (Ls' := #[.val (.ref y), .val (.int (Int32.ofNat n))]) (st' := [(.ref y), (.int (Int32.ofNat n))]) [oIloadN w.ok (dc.g 0 rfl), oAloadN w.ok (dc.g 1 rfl)] rfl ?_
  refine w.len F (dc.g 2 rfl) ?_
  show Go κ _ T 3 #[.val (.ref y), .val (.int (Int32.ofNat n))] [(.int (Int32.ofNat vs.length)), (.int (Int32.ofNat n))]
  refine blk (pc' := 8) (Ls' := #[.val (.ref y), .val (.int (Int32.ofNat n))]) (st' := [(.int ((((((Int32.ofNat n) - (Int32.ofNat vs.length))).toUInt32 >>> ((31 : Int32) &&& 31).toUInt32).toInt32).toInt8.toInt32))]) [oIsub w.ok (dc.g 3 rfl), oBipush w.ok (dc.g 4 rfl), oIushr w.ok (dc.g 5 rfl), oI2b w.ok (dc.g 6 rfl)] rfl ?_
  have e : ((((((Int32.ofNat n) - (Int32.ofNat vs.length))).toUInt32 >>> ((31 : Int32) &&& 31).toUInt32).toInt32).toInt8.toInt32) = r := by
    rcases hm with ⟨q, rfl⟩ | ⟨q, q0, rfl⟩
    · rw [q]; exact cod0
    · rw [q] at hN ⊢; exact cod1 q0 hN
  rw [e]
  show Go κ _ T 8 #[.val (.ref y), .val (.int (Int32.ofNat n))] [(.int r)]
  exact w.retI (t := .byte) rfl (Or.inr (Or.inr (Or.inl rfl))) (by rcases hm with ⟨q, rfl⟩ | ⟨q, q0, rfl⟩ <;> rfl) (dc.g 7 rfl) (by decide) (by decide) (fun S hS => ⟨rfl, rfl⟩)
def D_si4 : List (Nat × Instr × Nat) := [(0, .aload_n 0, 1), (1, .invokespecial 1, 3), (4, .iload_n 3, 1), (5, .ifCond .ne 22, 3), (8, .aload_n 0, 1), (9, .ldc 7, 2), (11, .getfield 9, 3), (14, .putfield 9, 3), (17, .aload_n 0, 1), (18, .ldc 7, 2), (20, .getfield 15, 3), (23, .putfield 15, 3), (26, .return_, 1), (27, .getstatic 38, 3), (30, .ifCond .eq 28, 3), (33, .aload_n 1, 1), (34, .iload_n 2, 1), (35, .iload_n 3, 1), (36, .invokestatic 177, 3), (39, .astore 5, 2), (41, .aload_n 0, 1), (42, .aload 5, 2), (44, .iload_n 3, 1), (45, .invokestatic 47, 3), (48, .putfield 15, 3), (51, .aload_n 0, 1), (52, .aload 5, 2), (54, .putfield 9, 3), (57, .return_, 1), (58, .aload_n 0, 1), (59, .iconst 1, 1), (60, .putfield 15, 3), (63, .aload_n 0, 1), (64, .aload_n 1, 1), (65, .iload_n 2, 1), (66, .iload_n 3, 1), (67, .invokestatic 180, 3), (70, .putfield 9, 3), (73, .return_, 1)]
theorem hD_si4 : ∀ q ∈ D_si4, decode jdk_42_method_149_code q.1 = .ok q.2 := by decide +kernel
set_option maxRecDepth 65536 in
set_option maxHeartbeats 4000000 in
theorem c_si4 (l : Launch) (Z : State) (a0 : Array Value) (hw : ∀ d ∈ tables_1, d.before a0 Z = true) (hEL : EW Z a0 []) (hJS : JS Z) (hJU : JU Z) (aD aL : Addr) (hK : KD Z aD aL) {x A : Addr} {cs : List Int32} {h : Heap} (oz : Ext Z.heap h) (X : Exa Z h x "java/lang/String") (FV : Fld Z h x "java/lang/String" "value" "[B" .null) (FC : Fld Z h x "java/lang/String" "coder" "B" (.int 0)) (hx0 : Z.heap.size ≤ x) (FA : Ary Z h A .char cs) (hn : cs.length ≤ 4) (hpos : 0 < cs.length) : Ctr l Z [] (⟨"java/lang/String", "<init>", "([CIILjava/lang/Void;)V"⟩ : MethodName) jdk_42_method_149_code 6 none [] ({ frames := 4, cells := 2, slots := 12, locals := 60 } : Room) [x] #[(.ref x), (.ref A), (.int (0 : Int32)), (.int (Int32.ofNat cs.length)), .null] h (fun v h' S => v = none ∧ Keep h h' [x] ∧ Str Z h' x cs) := by
  refine enter (a0 := a0) (by first | (simp [plainName, overriddenIn]; done) | decide +kernel) hEL (Ls := #[.val (.ref x), .val (.ref A), .val (.int (0 : Int32)), .val (.int (Int32.ofNat cs.length)), .val .null, .unset]) (fun m => by first | (simp [entryFrame, mkF, argsToLocals, Value.category]; done) | rfl) ?_
  intro κ vm T hby hs w Sf
  have dc := Dec.of hby hD_si4
  show Go κ (GQ κ Z [] ({ frames := 4, cells := 2, slots := 12, locals := 60 } : Room) (fun v h' S => v = none ∧ Keep h h' [x] ∧ Str Z h' x cs)) T 0 #[.val (.ref x), .val (.ref A), .val (.int (0 : Int32)), .val (.int (Int32.ofNat cs.length)), .val .null, .unset] []
  have ozs : Ext Z.heap κ.s.heap := by rw [hs]; exact oz
  have S0 := Sf x (List.mem_singleton.mpr rfl)
  have hIC := FA.isC
  refine blk (pc' := 1) (Ls' := #[.val (.ref x), .val (.ref A), .val (.int (0 : Int32)), .val (.int (Int32.ofNat cs.length)), .val .null, .unset]) (st' := [(.ref x)]) [oAloadN w.ok (dc.g 0 rfl)] rfl ?_
  refine w.initO (wd hw 12 rfl) (wd hw 13 rfl) (wd hw 14 rfl) rfl (dc.g 1 rfl) (by decide) (Wd := 0) (Nat.le_of_eq rfl) (by decide) ?_
  intro T100 w101
  show Go κ _ T100 4 #[.val (.ref x), .val (.ref A), .val (.int (0 : Int32)), .val (.int (Int32.ofNat cs.length)), .val .null, .unset] []
  refine blk (pc' := 5) (Ls' := #[.val (.ref x), .val (.ref A), .val (.int (0 : Int32)), .val (.int (Int32.ofNat cs.length)), .val .null, .unset]) (st' := [(.int (Int32.ofNat cs.length))]) [oIloadN w101.ok (dc.g 2 rfl)] rfl ?_
  refine zNe (pc' := 27) w101.ok (dc.g 3 rfl) (by decide) (by decide) (fun hc102 => ?_) (fun hc102 => ?_)
  · show Go κ _ T100 27 #[.val (.ref x), .val (.ref A), .val (.int (0 : Int32)), .val (.int (Int32.ofNat cs.length)), .val .null, .unset] []
    have hpos : 0 < cs.length := Nat.pos_of_ne_zero fun q => hc102 (by rw [q]; rfl)
    obtain ⟨⟨zc, hcs, hcz⟩, -⟩ := id hJS
    refine w101.gets (wd hw 15 rfl) (hcs.ext (w101.old ozs)) (dc.g 13 rfl) ?_
    intro T103 w104
    show Go κ _ T103 30 #[.val (.ref x), .val (.ref A), .val (.int (0 : Int32)), .val (.int (Int32.ofNat cs.length)), .val .null, .unset] [(.int zc)]
    refine zEq (pc' := 58) w104.ok (dc.g 14 rfl) (by decide) (by decide) (fun hc105 => absurd hc105 hcz) (fun hc105 => ?_)
    show Go κ _ T103 33 #[.val (.ref x), .val (.ref A), .val (.int (0 : Int32)), .val (.int (Int32.ofNat cs.length)), .val .null, .unset] []
    refine blk (pc' := 36) (Ls' := #[.val (.ref x), .val (.ref A), .val (.int (0 : Int32)), .val (.int (Int32.ofNat cs.length)), .val .null, .unset]) (st' := [(.int (Int32.ofNat cs.length)), (.int (0 : Int32)), (.ref A)]) [oAloadN w104.ok (dc.g 15 rfl), oIloadN w104.ok (dc.g 16 rfl), oIloadN w104.ok (dc.g 17 rfl)] rfl ?_
    refine w104.callS (wd hw 16 rfl) (wd hw 17 rfl) (wd hw 18 rfl) (wd hw 19 rfl) (by decide) (argsL := [(.ref A), (.int (0 : Int32)), (.int (Int32.ofNat cs.length))]) (Wd := 0) (Ctr.pays (len := 3) (Wd := 0) (c_cmp3 l Z a0 hw hEL hJS hJU aD aL hK (w104.old ozs) FA hn) w104 (wd hw 19 rfl) (wd hw 18 rfl) hEL (by decide) (by decide) sfNil) pd4 rfl (st := []) rfl rfl (Nat.le_of_eq rfl) (dc.g 18 rfl) (by decide) (by decide) ?_
    intro vm106 T107 h108 v109 w110 C111 Q112
    obtain ⟨K2, y, rfl, hy⟩ := Q112
    show Go κ _ T107 39 #[.val (.ref x), .val (.ref A), .val (.int (0 : Int32)), .val (.int (Int32.ofNat cs.length)), .val .null, .unset] [(.ref y)]
    refine blk (pc' := 45) (Ls' := #[.val (.ref x), .val (.ref A), .val (.int (0 : Int32)), .val (.int (Int32.ofNat cs.length)), .val .null, .val (.ref y)]) (st' := [(.int (Int32.ofNat cs.length)), (.ref y), (.ref x)]) [oAstore w110.ok (dc.g 19 rfl), oAloadN w110.ok (dc.g 20 rfl), oAload w110.ok (dc.g 21 rfl), oIloadN w110.ok (dc.g 22 rfl)] rfl ?_
    obtain ⟨vs, r, FY, hm, hst⟩ : ∃ (vs : List Int32) (r : Int32), Ary Z h108 y .byte vs ∧ ((vs.length = cs.length ∧ r = 0) ∨ (vs.length = 2 * cs.length ∧ 0 < cs.length ∧ r = 1)) ∧ ((IsL cs ∧ r = 0 ∧ vs = cs.map lo8) ∨ (¬ IsL cs ∧ r = 1 ∧ vs = u16 cs)) := by
      rcases hy with ⟨q1, q2⟩ | ⟨q1, q2⟩
      · exact ⟨_, 0, q2, Or.inl ⟨by simp, rfl⟩, Or.inl ⟨q1, rfl, rfl⟩⟩
      · exact ⟨_, 1, q2, Or.inr ⟨u16_len _, hpos, rfl⟩, Or.inr ⟨q1, rfl, rfl⟩⟩
    have hr : narrow .byte (.int r) = .int r ∧ fits .byte (.int r) = true := by rcases hm with ⟨-, rfl⟩ | ⟨-, -, rfl⟩ <;> exact ⟨rfl, rfl⟩
    refine w110.callS (wd hw 24 rfl) (wd hw 25 rfl) (wd hw 18 rfl) (wd hw 26 rfl) (by decide) (argsL := [(.ref y), (.int (Int32.ofNat cs.length))]) (Wd := 1) (Ctr.pays (len := 3) (Wd := 1) (c_codl l Z a0 hw hEL hJS hJU aD aL hK FY hm) w110 (wd hw 26 rfl) (wd hw 18 rfl) hEL (by decide) (by decide) sfNil) pd6 rfl (st := [(.ref x)]) rfl rfl (Nat.le_of_eq rfl) (dc.g 23 rfl) (by decide) (by decide) ?_
    intro vm113 T114 h115 v116 w117 C118 Q119
    obtain ⟨e3, rfl⟩ := Q119
    subst e3
    show Go κ _ T114 48 #[.val (.ref x), .val (.ref A), .val (.int (0 : Int32)), .val (.int (Int32.ofNat cs.length)), .val .null, .val (.ref y)] [(.int r), (.ref x)]
    have S1 := C118.safe (Nat.lt_of_lt_of_le X.lt K2.1) (C111.safe X.lt S0)
    have X1 := X.keep K2
    have FC1 := FC.keep K2 nin0
    have FV1 := FV.keep K2 nin0
    have hyx : y ≠ x := FY.ne_exa X1 (wd hw 2 rfl)
    refine w117.put (wd hw 27 rfl) FC1 X1 (Or.inr ⟨(wd hw 28 rfl), rfl, rfl⟩) (wd hw 2 rfl) (ty := .byte) (by decide) (hr).1 (hr).2 S1 hx0 (dc.g 24 rfl) ?_
    intro T120 h122 w121 W123 S124
    show Go κ _ T120 51 #[.val (.ref x), .val (.ref A), .val (.int (0 : Int32)), .val (.int (Int32.ofNat cs.length)), .val .null, .val (.ref y)] []
    have X2 := X1.wr W123
    have FV2 := FV1.other W123 (Or.inr (slot_ne (Or.inr (wd hw 30 rfl)) (Or.inr (wd hw 28 rfl)) (by decide) (t := .array .byte) (by decide) (t' := .byte) (by decide)))
    have FC2 : Fld Z h122 x "java/lang/String" "coder" "B" (.int r) := FC1.same W123
    have FY2 := FY.other W123 hyx
    refine blk (pc' := 54) (Ls' := #[.val (.ref x), .val (.ref A), .val (.int (0 : Int32)), .val (.int (Int32.ofNat cs.length)), .val .null, .val (.ref y)]) (st' := [(.ref y), (.ref x)]) [oAloadN w121.ok (dc.g 25 rfl), oAload w121.ok (dc.g 26 rfl)] rfl ?_
    refine w121.put (wd hw 29 rfl) FV2 X2 (Or.inr ⟨(wd hw 30 rfl), rfl, rfl⟩) (wd hw 2 rfl) (ty := (.array .byte)) (by decide) rfl rfl S124 hx0 (dc.g 27 rfl) ?_
    intro T125 h127 w126 W128 S129
    show Go κ _ T125 57 #[.val (.ref x), .val (.ref A), .val (.int (0 : Int32)), .val (.int (Int32.ofNat cs.length)), .val .null, .val (.ref y)] []
    have X3 := X2.wr W128
    have FC3 := FC2.other W128 (Or.inr (slot_ne (Or.inr (wd hw 28 rfl)) (Or.inr (wd hw 30 rfl)) (by decide) (t := .byte) (by decide) (t' := .array .byte) (by decide)))
    have FV3 : Fld Z h127 x "java/lang/String" "value" "[B" (.ref y) := FV2.same W128
    have FY3 := FY2.other W128 hyx
    exact w126.retV (dc.g 28 rfl) (by decide) (by decide) (fun S hS => ⟨rfl, ((((Keep.refl h [x]).trans K2 all0).wr W123 (Or.inl (List.mem_of_getElem? (i := 0) rfl))).wr W128 (Or.inl (List.mem_of_getElem? (i := 0) rfl))), y, X3, FV3, hIC, by omega, by rcases hst with ⟨q1, rfl, rfl⟩ | ⟨q1, rfl, rfl⟩ <;> first | exact Or.inl ⟨q1, FC3, FY3⟩ | exact Or.inr ⟨q1, FC3, FY3⟩⟩)
  · show Go κ _ T100 8 #[.val (.ref x), .val (.ref A), .val (.int (0 : Int32)), .val (.int (Int32.ofNat cs.length)), .val .null, .unset] []
    have e0 : cs = [] := by have := hn; cases cs with | nil => rfl | cons c cs => exact absurd hc102 (by rw [show (0 : Int32) = Int32.ofNat 0 from rfl, ofNat_inj (by simp at this ⊢; omega) (by decide)]; simp)
    rw [e0] at hpos; exact absurd hpos (Nat.lt_irrefl _)
def D_si1 : List (Nat × Instr × Nat) := [(0, .aload_n 0, 1), (1, .aload_n 1, 1), (2, .iconst 0, 1), (3, .aload_n 1, 1), (4, .arraylength, 1), (5, .aconst_null, 1), (6, .invokespecial 27, 3), (9, .return_, 1)]
theorem hD_si1 : ∀ q ∈ D_si1, decode jdk_42_method_3_code q.1 = .ok q.2 := by decide +kernel
set_option maxRecDepth 65536 in
set_option maxHeartbeats 4000000 in
theorem c_si1 (l : Launch) (Z : State) (a0 : Array Value) (hw : ∀ d ∈ tables_1, d.before a0 Z = true) (hEL : EW Z a0 []) (hJS : JS Z) (hJU : JU Z) (aD aL : Addr) (hK : KD Z aD aL) {x A : Addr} {cs : List Int32} {h : Heap} (oz : Ext Z.heap h) (X : Exa Z h x "java/lang/String") (FV : Fld Z h x "java/lang/String" "value" "[B" .null) (FC : Fld Z h x "java/lang/String" "coder" "B" (.int 0)) (hx0 : Z.heap.size ≤ x) (FA : Ary Z h A .char cs) (hn : cs.length ≤ 4) (hpos : 0 < cs.length) : Ctr l Z [] (⟨"java/lang/String", "<init>", "([C)V"⟩ : MethodName) jdk_42_method_3_code 2 none [] ({ frames := 5, cells := 2, slots := 12, locals := 77 } : Room) [x] #[(.ref x), (.ref A)] h (fun v h' S => v = none ∧ Keep h h' [x] ∧ Str Z h' x cs) := by
  refine enter (a0 := a0) (by first | (simp [plainName, overriddenIn]; done) | decide +kernel) hEL (Ls := #[.val (.ref x), .val (.ref A)]) (fun m => by first | (simp [entryFrame, mkF, argsToLocals, Value.category]; done) | rfl) ?_
  intro κ vm T hby hs w Sf
  have dc := Dec.of hby hD_si1
  show Go κ (GQ κ Z [] ({ frames := 5, cells := 2, slots := 12, locals := 77 } : Room) (fun v h' S => v = none ∧ Keep h h' [x] ∧ Str Z h' x cs)) T 0 #[.val (.ref x), .val (.ref A)] []
  refine blk (pc' := 4) (Ls' := #[.val (.ref x), .val (.ref A)]) (st' := [(.ref A), (.int (0 : Int32)), (.ref A), (.ref x)]) [oAloadN w.ok (dc.g 0 rfl), oAloadN w.ok (dc.g 1 rfl), oIconst w.ok (dc.g 2 rfl), oAloadN w.ok (dc.g 3 rfl)] rfl ?_
  refine w.len FA (dc.g 4 rfl) ?_
  show Go κ _ T 5 #[.val (.ref x), .val (.ref A)] [(.int (Int32.ofNat cs.length)), (.int (0 : Int32)), (.ref A), (.ref x)]
  refine blk (pc' := 6) (Ls' := #[.val (.ref x), .val (.ref A)]) (st' := [.null, (.int (Int32.ofNat cs.length)), (.int (0 : Int32)), (.ref A), (.ref x)]) [oAnull w.ok (dc.g 5 rfl)] rfl ?_
  refine w.callI rfl (wd hw 8 rfl) (wd hw 9 rfl) (wd hw 11 rfl) (by decide) (a := x) (argsL := [(.ref A), (.int (0 : Int32)), (.int (Int32.ofNat cs.length)), .null]) (Wd := 0) (Ctr.pays (len := 3) (Wd := 0) (c_si4 l Z a0 hw hEL hJS hJU aD aL hK oz X FV FC hx0 FA hn hpos) w (wd hw 11 rfl) (wd hw 3 rfl) hEL (by decide) (by decide) (sfOne X.lt (Sf x (List.mem_singleton.mpr rfl)))) pd7 rfl (st := []) rfl rfl (Nat.le_of_eq rfl) (dc.g 6 rfl) (by decide) (by decide) ?_
  intro vm130 T131 h132 v133 w134 C135 Q136
  obtain ⟨rfl, q2⟩ := Q136
  show Go κ _ T131 9 #[.val (.ref x), .val (.ref A)] []
  exact w134.retV (dc.g 7 rfl) (by decide) (by decide) (fun S hS => ⟨rfl, q2⟩)
def D_isl : List (Nat × Instr × Nat) := [(0, .getstatic 38, 3), (3, .ifCond .eq 14, 3), (6, .aload_n 0, 1), (7, .getfield 15, 3), (10, .ifCond .ne 7, 3), (13, .iconst 1, 1), (14, .goto 4, 3), (17, .iconst 0, 1), (18, .ireturn, 1)]
theorem hD_isl : ∀ q ∈ D_isl, decode jdk_42_method_154_code q.1 = .ok q.2 := by decide +kernel
set_option maxRecDepth 65536 in
set_option maxHeartbeats 4000000 in
theorem c_isl (l : Launch) (Z : State) (a0 : Array Value) (hw : ∀ d ∈ tables_1, d.before a0 Z = true) (hEL : EW Z a0 []) (hJS : JS Z) (hJU : JU Z) (aD aL : Addr) (hK : KD Z aD aL) {a : Addr} {r : Int32} {h : Heap} (oz : Ext Z.heap h) (F : Fld Z h a "java/lang/String" "coder" "B" (.int r)) : Ctr l Z [] (⟨"java/lang/String", "isLatin1", "()Z"⟩ : MethodName) jdk_42_method_154_code 1 (some .boolean) [] ({ frames := 0, cells := 0, slots := 0, locals := 0 } : Room) [] #[(.ref a)] h (fun v h' S => h = h' ∧ v = some (.int (if r = 0 then 1 else 0))) := by
  refine enter (a0 := a0) (by first | (simp [plainName, overriddenIn]; done) | decide +kernel) hEL (Ls := #[.val (.ref a)]) (fun m => by first | (simp [entryFrame, mkF, argsToLocals, Value.category]; done) | rfl) ?_
  intro κ vm T hby hs w Sf
  have dc := Dec.of hby hD_isl
  show Go κ (GQ κ Z [] ({ frames := 0, cells := 0, slots := 0, locals := 0 } : Room) (fun v h' S => h = h' ∧ v = some (.int (if r = 0 then 1 else 0)))) T 0 #[.val (.ref a)] []
  have ozs : Ext Z.heap κ.s.heap := by rw [hs]; exact oz
  obtain ⟨⟨zc, hcs, hcz⟩, -⟩ := id hJS
  refine w.gets (wd hw 15 rfl) (hcs.ext (w.old ozs)) (dc.g 0 rfl) ?_
  intro T137 w138
  show Go κ _ T137 3 #[.val (.ref a)] [(.int zc)]
  refine zEq (pc' := 17) w138.ok (dc.g 1 rfl) (by decide) (by decide) (fun hc139 => absurd hc139 hcz) (fun hc139 => ?_)
  show Go κ _ T137 6 #[.val (.ref a)] []
  refine blk (pc' := 7) (Ls' := #[.val (.ref a)]) (st' := [(.ref a)]) [oAloadN w138.ok (dc.g 2 rfl)] rfl ?_
  refine w138.get (wd hw 27 rfl) F (dc.g 3 rfl) ?_
  intro T140 w141
  show Go κ _ T140 10 #[.val (.ref a)] [(.int r)]
  refine zNe (pc' := 17) w141.ok (dc.g 4 rfl) (by decide) (by decide) (fun hc142 => ?_) (fun hc142 => ?_)
  · show Go κ _ T140 17 #[.val (.ref a)] []
    refine blk (pc' := 18) (Ls' := #[.val (.ref a)]) (st' := [(.int (0 : Int32))]) [oIconst w141.ok (dc.g 7 rfl)] rfl ?_
    exact w141.retI (t := .boolean) rfl (Or.inr (Or.inl rfl)) rfl (dc.g 8 rfl) (by decide) (by decide) (fun S hS => ⟨rfl, by rw [if_neg hc142]⟩)
  · show Go κ _ T140 13 #[.val (.ref a)] []
    refine blk (pc' := 18) (Ls' := #[.val (.ref a)]) (st' := [(.int (1 : Int32))]) [oIconst w141.ok (dc.g 5 rfl), oGoto w141.ok 18 (dc.g 6 rfl)] rfl ?_
    exact w141.retI (t := .boolean) rfl (Or.inr (Or.inl rfl)) rfl (dc.g 8 rfl) (by decide) (by decide) (fun S hS => ⟨rfl, by rw [if_pos hc142]⟩)
def D_pci : List (Nat × Instr × Nat) := [(0, .iload_n 0, 1), (1, .ifCond .lt 8, 3), (4, .iload_n 0, 1), (5, .iload_n 1, 1), (6, .if_icmp .lt 10, 3), (9, .aload_n 2, 1), (10, .iload_n 0, 1), (11, .iload_n 1, 1), (12, .invokestatic 95, 3), (15, .athrow, 1), (16, .iload_n 0, 1), (17, .ireturn, 1)]
theorem hD_pci : ∀ q ∈ D_pci, decode jdk_41_method_11_code q.1 = .ok q.2 := by decide +kernel
set_option maxRecDepth 65536 in
set_option maxHeartbeats 4000000 in
theorem c_pci (l : Launch) (Z : State) (a0 : Array Value) (hw : ∀ d ∈ tables_1, d.before a0 Z = true) (hEL : EW Z a0 []) (hJS : JS Z) (hJU : JU Z) (aD aL : Addr) (hK : KD Z aD aL) {i n : Nat} {f : Value} {h : Heap} (hi : i < n) (hn : n < 2147483648) (hf : f.isRef = true) : Ctr l Z [] (⟨"jdk/internal/util/Preconditions", "checkIndex", "(IILjava/util/function/BiFunction;)I"⟩ : MethodName) jdk_41_method_11_code 3 (some .int) [] ({ frames := 0, cells := 0, slots := 0, locals := 0 } : Room) [] #[(.int (Int32.ofNat i)), (.int (Int32.ofNat n)), f] h (fun v h' S => h = h' ∧ v = some (.int (Int32.ofNat i))) := by
  refine enter (a0 := a0) (by first | (simp [plainName, overriddenIn]; done) | decide +kernel) hEL (Ls := #[.val (.int (Int32.ofNat i)), .val (.int (Int32.ofNat n)), .val f]) (fun m => by first | (cases f <;> first | (simp [entryFrame, mkF, argsToLocals, Value.category]; done) | (simp [Value.isRef] at hf; done)) | (simp [entryFrame, mkF, argsToLocals, Value.category]; done) | rfl) ?_
  intro κ vm T hby hs w Sf
  have dc := Dec.of hby hD_pci
  show Go κ (GQ κ Z [] ({ frames := 0, cells := 0, slots := 0, locals := 0 } : Room) (fun v h' S => h = h' ∧ v = some (.int (Int32.ofNat i)))) T 0 #[.val (.int (Int32.ofNat i)), .val (.int (Int32.ofNat n)), .val f] []
  refine blk (pc' := 1) (Ls' := #[.val (.int (Int32.ofNat i)), .val (.int (Int32.ofNat n)), .val f]) (st' := [(.int (Int32.ofNat i))]) [oIloadN w.ok (dc.g 0 rfl)] rfl ?_
  refine zLt (pc' := 9) w.ok (dc.g 1 rfl) (by decide) (by decide) (fun hc143 => absurd hc143 (nneg_ofNat (by omega))) (fun hc143 => ?_)
  show Go κ _ T 4 #[.val (.int (Int32.ofNat i)), .val (.int (Int32.ofNat n)), .val f] []
  refine blk (pc' := 6) (Ls' := #[.val (.int (Int32.ofNat i)), .val (.int (Int32.ofNat n)), .val f]) (st' := [(.int (Int32.ofNat n)), (.int (Int32.ofNat i))]) [oIloadN w.ok (dc.g 2 rfl), oIloadN w.ok (dc.g 3 rfl)] rfl ?_
  refine cLt (pc' := 16) w.ok (dc.g 4 rfl) (by decide) (by decide) (fun hc144 => ?_) (fun hc144 => absurd ((ofNat_lt (by omega) hn).mpr hi) hc144)
  show Go κ _ T 16 #[.val (.int (Int32.ofNat i)), .val (.int (Int32.ofNat n)), .val f] []
  refine blk (pc' := 17) (Ls' := #[.val (.int (Int32.ofNat i)), .val (.int (Int32.ofNat n)), .val f]) (st' := [(.int (Int32.ofNat i))]) [oIloadN w.ok (dc.g 10 rfl)] rfl ?_
  exact w.retI (t := .int) rfl (Or.inl rfl) rfl (dc.g 11 rfl) (by decide) (by decide) (fun S hS => ⟨rfl, rfl⟩)
def D_sci : List (Nat × Instr × Nat) := [(0, .iload_n 0, 1), (1, .iload_n 1, 1), (2, .getstatic 1053, 3), (5, .invokestatic 1059, 3), (8, .pop, 1), (9, .return_, 1)]
theorem hD_sci : ∀ q ∈ D_sci, decode jdk_42_method_155_code q.1 = .ok q.2 := by decide +kernel
set_option maxRecDepth 65536 in
set_option maxHeartbeats 4000000 in
theorem c_sci (l : Launch) (Z : State) (a0 : Array Value) (hw : ∀ d ∈ tables_1, d.before a0 Z = true) (hEL : EW Z a0 []) (hJS : JS Z) (hJU : JU Z) (aD aL : Addr) (hK : KD Z aD aL) {i n : Nat} {h : Heap} (oz : Ext Z.heap h) (hi : i < n) (hn : n < 2147483648) : Ctr l Z [] (⟨"java/lang/String", "checkIndex", "(II)V"⟩ : MethodName) jdk_42_method_155_code 2 none [] ({ frames := 1, cells := 0, slots := 0, locals := 14 } : Room) [] #[(.int (Int32.ofNat i)), (.int (Int32.ofNat n))] h (fun v h' S => h = h' ∧ v = none) := by
  refine enter (a0 := a0) (by first | (simp [plainName, overriddenIn]; done) | decide +kernel) hEL (Ls := #[.val (.int (Int32.ofNat i)), .val (.int (Int32.ofNat n))]) (fun m => by first | (simp [entryFrame, mkF, argsToLocals, Value.category]; done) | rfl) ?_
  intro κ vm T hby hs w Sf
  have dc := Dec.of hby hD_sci
  show Go κ (GQ κ Z [] ({ frames := 1, cells := 0, slots := 0, locals := 14 } : Room) (fun v h' S => h = h' ∧ v = none)) T 0 #[.val (.int (Int32.ofNat i)), .val (.int (Int32.ofNat n))] []
  have ozs : Ext Z.heap κ.s.heap := by rw [hs]; exact oz
  obtain ⟨-, f, hfs, hf⟩ := id hJS
  refine blk (pc' := 2) (Ls' := #[.val (.int (Int32.ofNat i)), .val (.int (Int32.ofNat n))]) (st' := [(.int (Int32.ofNat n)), (.int (Int32.ofNat i))]) [oIloadN w.ok (dc.g 0 rfl), oIloadN w.ok (dc.g 1 rfl)] rfl ?_
  refine w.gets (wd hw 86 rfl) (hfs.ext (w.old ozs)) (dc.g 2 rfl) ?_
  intro T145 w146
  show Go κ _ T145 5 #[.val (.int (Int32.ofNat i)), .val (.int (Int32.ofNat n))] [f, (.int (Int32.ofNat n)), (.int (Int32.ofNat i))]
  refine w146.callS (wd hw 88 rfl) (wd hw 89 rfl) (wd hw 87 rfl) (wd hw 90 rfl) (by decide) (argsL := [(.int (Int32.ofNat i)), (.int (Int32.ofNat n)), f]) (Wd := 0) (Ctr.pays (len := 3) (Wd := 0) (c_pci l Z a0 hw hEL hJS hJU aD aL hK hi hn hf) w146 (wd hw 90 rfl) (wd hw 87 rfl) hEL (by decide) (by decide) sfNil) pd8 rfl (st := []) rfl rfl (Nat.le_of_eq rfl) (dc.g 3 rfl) (by decide) (by decide) ?_
  intro vm147 T148 h149 v150 w151 C152 Q153
  obtain ⟨e2, rfl⟩ := Q153
  subst e2
  show Go κ _ T148 8 #[.val (.int (Int32.ofNat i)), .val (.int (Int32.ofNat n))] [(.int (Int32.ofNat i))]
  refine blk (pc' := 9) (Ls' := #[.val (.int (Int32.ofNat i)), .val (.int (Int32.ofNat n))]) (st' := []) [oPop w151.ok (dc.g 4 rfl)] rfl ?_
  exact w151.retV (dc.g 5 rfl) (by decide) (by decide) (fun S hS => ⟨rfl, rfl⟩)
def D_lca : List (Nat × Instr × Nat) := [(0, .iload_n 1, 1), (1, .aload_n 0, 1), (2, .arraylength, 1), (3, .invokestatic 9, 3), (6, .aload_n 0, 1), (7, .iload_n 1, 1), (8, .baload, 1), (9, .sipush 255, 3), (12, .iand, 1), (13, .i2c, 1), (14, .ireturn, 1)]
theorem hD_lca : ∀ q ∈ D_lca, decode jdk_43_method_2_code q.1 = .ok q.2 := by decide +kernel
set_option maxRecDepth 65536 in
set_option maxHeartbeats 4000000 in
theorem c_lca (l : Launch) (Z : State) (a0 : Array Value) (hw : ∀ d ∈ tables_1, d.before a0 Z = true) (hEL : EW Z a0 []) (hJS : JS Z) (hJU : JU Z) (aD aL : Addr) (hK : KD Z aD aL) {y : Addr} {i : Nat} {c : Int32} {cs : List Int32} {h : Heap} (oz : Ext Z.heap h) (F : Ary Z h y .byte (cs.map lo8)) (hL : IsL cs) (hi : cs[i]? = some c) : Ctr l Z [] (⟨"java/lang/StringLatin1", "charAt", "([BI)C"⟩ : MethodName) jdk_43_method_2_code 2 (some .char) [] ({ frames := 2, cells := 0, slots := 0, locals := 27 } : Room) [] #[(.ref y), (.int (Int32.ofNat i))] h (fun v h' S => h = h' ∧ v = some (.int c)) := by
  refine enter (a0 := a0) (by first | (simp [plainName, overriddenIn]; done) | decide +kernel) hEL (Ls := #[.val (.ref y), .val (.int (Int32.ofNat i))]) (fun m => by first | (simp [entryFrame, mkF, argsToLocals, Value.category]; done) | rfl) ?_
  intro κ vm T hby hs w Sf
  have dc := Dec.of hby hD_lca
  show Go κ (GQ κ Z [] ({ frames := 2, cells := 0, slots := 0, locals := 27 } : Room) (fun v h' S => h = h' ∧ v = some (.int c))) T 0 #[.val (.ref y), .val (.int (Int32.ofNat i))] []
  have ozs : Ext Z.heap κ.s.heap := by rw [hs]; exact oz
  have hN := F.small
  have hl := (List.getElem?_eq_some_iff.mp hi).1
  have hcc := hL c (List.mem_of_getElem? hi)
  have hcd := hL.isC c (List.mem_of_getElem? hi)
  refine blk (pc' := 2) (Ls' := #[.val (.ref y), .val (.int (Int32.ofNat i))]) (st' := [(.ref y), (.int (Int32.ofNat i))]) [oIloadN w.ok (dc.g 0 rfl), oAloadN w.ok (dc.g 1 rfl)] rfl ?_
  refine w.len F (dc.g 2 rfl) ?_
  show Go κ _ T 3 #[.val (.ref y), .val (.int (Int32.ofNat i))] [(.int (Int32.ofNat (cs.map lo8).length)), (.int (Int32.ofNat i))]
  refine w.callS (wd hw 111 rfl) (wd hw 84 rfl) (wd hw 3 rfl) (wd hw 85 rfl) (by decide) (argsL := [(.int (Int32.ofNat i)), (.int (Int32.ofNat (cs.map lo8).length))]) (Wd := 0) (Ctr.pays (len := 3) (Wd := 0) (c_sci l Z a0 hw hEL hJS hJU aD aL hK (w.old ozs) (by simpa using hl) hN) w (wd hw 85 rfl) (wd hw 3 rfl) hEL (by decide) (by decide) sfNil) pd9 rfl (st := []) rfl rfl (Nat.le_of_eq rfl) (dc.g 3 rfl) (by decide) (by decide) ?_
  intro vm154 T155 h156 v157 w158 C159 Q160
  obtain ⟨e2, rfl⟩ := Q160
  subst e2
  show Go κ _ T155 6 #[.val (.ref y), .val (.int (Int32.ofNat i))] []
  refine blk (pc' := 8) (Ls' := #[.val (.ref y), .val (.int (Int32.ofNat i))]) (st' := [(.int (Int32.ofNat i)), (.ref y)]) [oAloadN w158.ok (dc.g 4 rfl), oIloadN w158.ok (dc.g 5 rfl)] rfl ?_
  refine w158.bld F (i := i) rfl (by rw [List.getElem?_map, hi]; rfl) (dc.g 6 rfl) ?_
  show Go κ _ T155 9 #[.val (.ref y), .val (.int (Int32.ofNat i))] [(.int (lo8 c))]
  refine blk (pc' := 14) (Ls' := #[.val (.ref y), .val (.int (Int32.ofNat i))]) (st' := [(.int ((((lo8 c) &&& (255 : Int32))).toUInt32.toUInt16.toUInt32.toInt32))]) [oSipush w158.ok (dc.g 7 rfl), oIand w158.ok (dc.g 8 rfl), oI2c w158.ok (dc.g 9 rfl)] rfl ?_
  rw [lo8_and hcc.1 hcc.2, char_of hcd.1 hcd.2]
  show Go κ _ T155 14 #[.val (.ref y), .val (.int (Int32.ofNat i))] [(.int c)]
  exact w158.retI (t := .char) rfl (Or.inr (Or.inr (Or.inr (Or.inl rfl)))) (narrow_char hcd.1 hcd.2) (dc.g 10 rfl) (by decide) (by decide) (fun S hS => ⟨rfl, rfl⟩)
def D_ulen : List (Nat × Instr × Nat) := [(0, .aload_n 0, 1), (1, .arraylength, 1), (2, .iconst 1, 1), (3, .ishr, 1), (4, .ireturn, 1)]
theorem hD_ulen : ∀ q ∈ D_ulen, decode jdk_52_method_6_code q.1 = .ok q.2 := by decide +kernel
set_option maxRecDepth 65536 in
set_option maxHeartbeats 4000000 in
theorem c_ulen (l : Launch) (Z : State) (a0 : Array Value) (hw : ∀ d ∈ tables_1, d.before a0 Z = true) (hEL : EW Z a0 []) (hJS : JS Z) (hJU : JU Z) (aD aL : Addr) (hK : KD Z aD aL) {y : Addr} {cs : List Int32} {h : Heap} (F : Ary Z h y .byte (u16 cs)) : Ctr l Z [] (⟨"java/lang/StringUTF16", "length", "([B)I"⟩ : MethodName) jdk_52_method_6_code 1 (some .int) [] ({ frames := 0, cells := 0, slots := 0, locals := 0 } : Room) [] #[(.ref y)] h (fun v h' S => h = h' ∧ v = some (.int (Int32.ofNat cs.length))) := by
  refine enter (a0 := a0) (by first | (simp [plainName, overriddenIn]; done) | decide +kernel) hEL (Ls := #[.val (.ref y)]) (fun m => by first | (simp [entryFrame, mkF, argsToLocals, Value.category]; done) | rfl) ?_
  intro κ vm T hby hs w Sf
  have dc := Dec.of hby hD_ulen
  show Go κ (GQ κ Z [] ({ frames := 0, cells := 0, slots := 0, locals := 0 } : Room) (fun v h' S => h = h' ∧ v = some (.int (Int32.ofNat cs.length)))) T 0 #[.val (.ref y)] []
  have hN := F.small
  rw [u16_len] at hN
  refine blk (pc' := 1) (Ls' := #[.val (.ref y)]) (st' := [(.ref y)]) [oAloadN w.ok (dc.g 0 rfl)] rfl ?_
  refine w.len F (dc.g 1 rfl) ?_
  show Go κ _ T 2 #[.val (.ref y)] [(.int (Int32.ofNat (u16 cs).length))]
  refine blk (pc' := 4) (Ls' := #[.val (.ref y)]) (st' := [(.int ((Int32.ofNat (u16 cs).length) >>> ((1 : Int32) &&& 31)))]) [oIconst w.ok (dc.g 2 rfl), oIshr w.ok (dc.g 3 rfl)] rfl ?_
  rw [u16_len, ofNat_half hN]
  show Go κ _ T 4 #[.val (.ref y)] [(.int (Int32.ofNat cs.length))]
  exact w.retI (t := .int) rfl (Or.inl rfl) rfl (dc.g 4 rfl) (by decide) (by decide) (fun S hS => ⟨rfl, rfl⟩)
def D_uci : List (Nat × Instr × Nat) := [(0, .iload_n 0, 1), (1, .aload_n 1, 1), (2, .invokestatic 48, 3), (5, .invokestatic 414, 3), (8, .return_, 1)]
theorem hD_uci : ∀ q ∈ D_uci, decode jdk_52_method_91_code q.1 = .ok q.2 := by decide +kernel
set_option maxRecDepth 65536 in
set_option maxHeartbeats 4000000 in
theorem c_uci (l : Launch) (Z : State) (a0 : Array Value) (hw : ∀ d ∈ tables_1, d.before a0 Z = true) (hEL : EW Z a0 []) (hJS : JS Z) (hJU : JU Z) (aD aL : Addr) (hK : KD Z aD aL) {y : Addr} {i : Nat} {cs : List Int32} {h : Heap} (oz : Ext Z.heap h) (F : Ary Z h y .byte (u16 cs)) (hi : i < cs.length) : Ctr l Z [] (⟨"java/lang/StringUTF16", "checkIndex", "(I[B)V"⟩ : MethodName) jdk_52_method_91_code 2 none [] ({ frames := 2, cells := 0, slots := 0, locals := 28 } : Room) [] #[(.int (Int32.ofNat i)), (.ref y)] h (fun v h' S => h = h' ∧ v = none) := by
  refine enter (a0 := a0) (by first | (simp [plainName, overriddenIn]; done) | decide +kernel) hEL (Ls := #[.val (.int (Int32.ofNat i)), .val (.ref y)]) (fun m => by first | (simp [entryFrame, mkF, argsToLocals, Value.category]; done) | rfl) ?_
  intro κ vm T hby hs w Sf
  have dc := Dec.of hby hD_uci
  show Go κ (GQ κ Z [] ({ frames := 2, cells := 0, slots := 0, locals := 28 } : Room) (fun v h' S => h = h' ∧ v = none)) T 0 #[.val (.int (Int32.ofNat i)), .val (.ref y)] []
  have ozs : Ext Z.heap κ.s.heap := by rw [hs]; exact oz
  have hN := F.small
  rw [u16_len] at hN
  refine blk (pc' := 2) (Ls' := #[.val (.int (Int32.ofNat i)), .val (.ref y)]) (st' := [(.ref y), (.int (Int32.ofNat i))]) [oIloadN w.ok (dc.g 0 rfl), oAloadN w.ok (dc.g 1 rfl)] rfl ?_
  refine w.callS (wd hw 80 rfl) (wd hw 81 rfl) (wd hw 18 rfl) (wd hw 82 rfl) (by decide) (argsL := [(.ref y)]) (Wd := 1) (Ctr.pays (len := 3) (Wd := 1) (c_ulen l Z a0 hw hEL hJS hJU aD aL hK F) w (wd hw 82 rfl) (wd hw 18 rfl) hEL (by decide) (by decide) sfNil) pd10 rfl (st := [(.int (Int32.ofNat i))]) rfl rfl (Nat.le_of_eq rfl) (dc.g 2 rfl) (by decide) (by decide) ?_
  intro vm161 T162 h163 v164 w165 C166 Q167
  obtain ⟨e2, rfl⟩ := Q167
  subst e2
  show Go κ _ T162 5 #[.val (.int (Int32.ofNat i)), .val (.ref y)] [(.int (Int32.ofNat cs.length)), (.int (Int32.ofNat i))]
  refine w165.callS (wd hw 83 rfl) (wd hw 84 rfl) (wd hw 3 rfl) (wd hw 85 rfl) (by decide) (argsL := [(.int (Int32.ofNat i)), (.int (Int32.ofNat cs.length))]) (Wd := 0) (Ctr.pays (len := 3) (Wd := 0) (c_sci l Z a0 hw hEL hJS hJU aD aL hK (w165.old ozs) hi (by omega)) w165 (wd hw 85 rfl) (wd hw 3 rfl) hEL (by decide) (by decide) sfNil) pd9 rfl (st := []) rfl rfl (Nat.le_of_eq rfl) (dc.g 3 rfl) (by decide) (by decide) ?_
  intro vm168 T169 h170 v171 w172 C173 Q174
  obtain ⟨e2, rfl⟩ := Q174
  subst e2
  show Go κ _ T169 8 #[.val (.int (Int32.ofNat i)), .val (.ref y)] []
  exact w172.retV (dc.g 4 rfl) (by decide) (by decide) (fun S hS => ⟨rfl, rfl⟩)
def D_uca : List (Nat × Instr × Nat) := [(0, .iload_n 1, 1), (1, .aload_n 0, 1), (2, .invokestatic 67, 3), (5, .aload_n 0, 1), (6, .iload_n 1, 1), (7, .invokestatic 71, 3), (10, .ireturn, 1)]
theorem hD_uca : ∀ q ∈ D_uca, decode jdk_52_method_83_code q.1 = .ok q.2 := by decide +kernel
set_option maxRecDepth 65536 in
set_option maxHeartbeats 4000000 in
theorem c_uca (l : Launch) (Z : State) (a0 : Array Value) (hw : ∀ d ∈ tables_1, d.before a0 Z = true) (hEL : EW Z a0 []) (hJS : JS Z) (hJU : JU Z) (aD aL : Addr) (hK : KD Z aD aL) {y : Addr} {i : Nat} {c : Int32} {cs : List Int32} {h : Heap} (oz : Ext Z.heap h) (F : Ary Z h y .byte (u16 cs)) (hIC : IsC cs) (hi : cs[i]? = some c) : Ctr l Z [] (⟨"java/lang/StringUTF16", "charAt", "([BI)C"⟩ : MethodName) jdk_52_method_83_code 2 (some .char) [] ({ frames := 3, cells := 0, slots := 0, locals := 41 } : Room) [] #[(.ref y), (.int (Int32.ofNat i))] h (fun v h' S => h = h' ∧ v = some (.int c)) := by
  refine enter (a0 := a0) (by first | (simp [plainName, overriddenIn]; done) | decide +kernel) hEL (Ls := #[.val (.ref y), .val (.int (Int32.ofNat i))]) (fun m => by first | (simp [entryFrame, mkF, argsToLocals, Value.category]; done) | rfl) ?_
  intro κ vm T hby hs w Sf
  have dc := Dec.of hby hD_uca
  show Go κ (GQ κ Z [] ({ frames := 3, cells := 0, slots := 0, locals := 41 } : Room) (fun v h' S => h = h' ∧ v = some (.int c))) T 0 #[.val (.ref y), .val (.int (Int32.ofNat i))] []
  have ozs : Ext Z.heap κ.s.heap := by rw [hs]; exact oz
  have hcd := hIC c (List.mem_of_getElem? hi)
  refine blk (pc' := 2) (Ls' := #[.val (.ref y), .val (.int (Int32.ofNat i))]) (st' := [(.ref y), (.int (Int32.ofNat i))]) [oIloadN w.ok (dc.g 0 rfl), oAloadN w.ok (dc.g 1 rfl)] rfl ?_
  refine w.callS (wd hw 77 rfl) (wd hw 78 rfl) (wd hw 18 rfl) (wd hw 79 rfl) (by decide) (argsL := [(.int (Int32.ofNat i)), (.ref y)]) (Wd := 0) (Ctr.pays (len := 3) (Wd := 0) (c_uci l Z a0 hw hEL hJS hJU aD aL hK (w.old ozs) F (List.getElem?_eq_some_iff.mp hi).1) w (wd hw 79 rfl) (wd hw 18 rfl) hEL (by decide) (by decide) sfNil) pd11 rfl (st := []) rfl rfl (Nat.le_of_eq rfl) (dc.g 2 rfl) (by decide) (by decide) ?_
  intro vm175 T176 h177 v178 w179 C180 Q181
  obtain ⟨e2, rfl⟩ := Q181
  subst e2
  show Go κ _ T176 5 #[.val (.ref y), .val (.int (Int32.ofNat i))] []
  refine blk (pc' := 7) (Ls' := #[.val (.ref y), .val (.int (Int32.ofNat i))]) (st' := [(.int (Int32.ofNat i)), (.ref y)]) [oAloadN w179.ok (dc.g 3 rfl), oIloadN w179.ok (dc.g 4 rfl)] rfl ?_
  refine w179.callS (wd hw 61 rfl) (wd hw 62 rfl) (wd hw 18 rfl) (wd hw 63 rfl) (by decide) (argsL := [(.ref y), (.int (Int32.ofNat i))]) (Wd := 0) (Ctr.pays (len := 3) (Wd := 0) (c_getc l Z a0 hw hEL hJS hJU aD aL hK (w179.old ozs) F hi hIC) w179 (wd hw 63 rfl) (wd hw 18 rfl) hEL (by decide) (by decide) sfNil) pd5 rfl (st := []) rfl rfl (Nat.le_of_eq rfl) (dc.g 5 rfl) (by decide) (by decide) ?_
  intro vm182 T183 h184 v185 w186 C187 Q188
  obtain ⟨e2, rfl⟩ := Q188
  subst e2
  show Go κ _ T183 10 #[.val (.ref y), .val (.int (Int32.ofNat i))] [(.int c)]
  exact w186.retI (t := .char) rfl (Or.inr (Or.inr (Or.inr (Or.inl rfl)))) (narrow_char hcd.1 hcd.2) (dc.g 6 rfl) (by decide) (by decide) (fun S hS => ⟨rfl, rfl⟩)
def D_cha : List (Nat × Instr × Nat) := [(0, .aload_n 0, 1), (1, .invokevirtual 492, 3), (4, .ifCond .eq 12, 3), (7, .aload_n 0, 1), (8, .getfield 9, 3), (11, .iload_n 1, 1), (12, .invokestatic 495, 3), (15, .ireturn, 1), (16, .aload_n 0, 1), (17, .getfield 9, 3), (20, .iload_n 1, 1), (21, .invokestatic 498, 3), (24, .ireturn, 1)]
theorem hD_cha : ∀ q ∈ D_cha, decode jdk_42_method_56_code q.1 = .ok q.2 := by decide +kernel
set_option maxRecDepth 65536 in
set_option maxHeartbeats 4000000 in
theorem c_cha (l : Launch) (Z : State) (a0 : Array Value) (hw : ∀ d ∈ tables_1, d.before a0 Z = true) (hEL : EW Z a0 []) (hJS : JS Z) (hJU : JU Z) (aD aL : Addr) (hK : KD Z aD aL) {a : Addr} {i : Nat} {c : Int32} {cs : List Int32} {h : Heap} (oz : Ext Z.heap h) (F : Str Z h a cs) (hi : cs[i]? = some c) : Ctr l Z [] (⟨"java/lang/String", "charAt", "(I)C"⟩ : MethodName) jdk_42_method_56_code 2 (some .char) [] ({ frames := 4, cells := 0, slots := 0, locals := 54 } : Room) [] #[(.ref a), (.int (Int32.ofNat i))] h (fun v h' S => h = h' ∧ v = some (.int c)) := by
  refine enter (a0 := a0) (by first | (simp [plainName, overriddenIn]; done) | decide +kernel) hEL (Ls := #[.val (.ref a), .val (.int (Int32.ofNat i))]) (fun m => by first | (simp [entryFrame, mkF, argsToLocals, Value.category]; done) | rfl) ?_
  intro κ vm T hby hs w Sf
  have dc := Dec.of hby hD_cha
  show Go κ (GQ κ Z [] ({ frames := 4, cells := 0, slots := 0, locals := 54 } : Room) (fun v h' S => h = h' ∧ v = some (.int c))) T 0 #[.val (.ref a), .val (.int (Int32.ofNat i))] []
  have ozs : Ext Z.heap κ.s.heap := by rw [hs]; exact oz
  obtain ⟨y, X, FV, hIC, hlen, hcase⟩ := F
  have hcd := hIC c (List.mem_of_getElem? hi)
  rcases hcase with ⟨q1, q2, q3⟩ | ⟨q1, q2, q3⟩
  · show Go κ _ T 0 #[.val (.ref a), .val (.int (Int32.ofNat i))] []
    refine blk (pc' := 1) (Ls' := #[.val (.ref a), .val (.int (Int32.ofNat i))]) (st' := [(.ref a)]) [oAloadN w.ok (dc.g 0 rfl)] rfl ?_
    refine w.callV (wd hw 69 rfl) (wd hw 70 rfl) (notFace (wd hw 72 rfl)) (wd hw 72 rfl) (wd hw 71 rfl) (by decide) (a := a) X (argsL := []) (Wd := 0) (Ctr.pays (len := 3) (Wd := 0) (c_isl l Z a0 hw hEL hJS hJU aD aL hK (w.old ozs) q2) w (wd hw 73 rfl) (wd hw 3 rfl) hEL (by decide) (by decide) sfNil) pd12 rfl (st := []) rfl rfl (Nat.le_of_eq rfl) (dc.g 1 rfl) (by decide) (by decide) ?_
    intro vm189 T190 h191 v192 w193 C194 Q195
    obtain ⟨e2, rfl⟩ := Q195
    subst e2
    show Go κ _ T190 4 #[.val (.ref a), .val (.int (Int32.ofNat i))] [(.int (1 : Int32))]
    refine zEq (pc' := 16) w193.ok (dc.g 2 rfl) (by decide) (by decide) (fun hc196 => absurd hc196 (by decide)) (fun hc196 => ?_)
    show Go κ _ T190 7 #[.val (.ref a), .val (.int (Int32.ofNat i))] []
    refine blk (pc' := 8) (Ls' := #[.val (.ref a), .val (.int (Int32.ofNat i))]) (st' := [(.ref a)]) [oAloadN w193.ok (dc.g 3 rfl)] rfl ?_
    refine w193.get (wd hw 29 rfl) FV (dc.g 4 rfl) ?_
    intro T197 w198
    show Go κ _ T197 11 #[.val (.ref a), .val (.int (Int32.ofNat i))] [(.ref y)]
    refine blk (pc' := 12) (Ls' := #[.val (.ref a), .val (.int (Int32.ofNat i))]) (st' := [(.int (Int32.ofNat i)), (.ref y)]) [oIloadN w198.ok (dc.g 5 rfl)] rfl ?_
    refine w198.callS (wd hw 107 rfl) (wd hw 108 rfl) (wd hw 109 rfl) (wd hw 110 rfl) (by decide) (argsL := [(.ref y), (.int (Int32.ofNat i))]) (Wd := 0) (Ctr.pays (len := 3) (Wd := 0) (c_lca l Z a0 hw hEL hJS hJU aD aL hK (w198.old ozs) q3 q1 hi) w198 (wd hw 110 rfl) (wd hw 109 rfl) hEL (by decide) (by decide) sfNil) pd5 rfl (st := []) rfl rfl (Nat.le_of_eq rfl) (dc.g 6 rfl) (by decide) (by decide) ?_
    intro vm199 T200 h201 v202 w203 C204 Q205
    obtain ⟨e2, rfl⟩ := Q205
    subst e2
    show Go κ _ T200 15 #[.val (.ref a), .val (.int (Int32.ofNat i))] [(.int c)]
    exact w203.retI (t := .char) rfl (Or.inr (Or.inr (Or.inr (Or.inl rfl)))) (narrow_char hcd.1 hcd.2) (dc.g 7 rfl) (by decide) (by decide) (fun S hS => ⟨rfl, rfl⟩)
  · show Go κ _ T 0 #[.val (.ref a), .val (.int (Int32.ofNat i))] []
    refine blk (pc' := 1) (Ls' := #[.val (.ref a), .val (.int (Int32.ofNat i))]) (st' := [(.ref a)]) [oAloadN w.ok (dc.g 0 rfl)] rfl ?_
    refine w.callV (wd hw 69 rfl) (wd hw 70 rfl) (notFace (wd hw 72 rfl)) (wd hw 72 rfl) (wd hw 71 rfl) (by decide) (a := a) X (argsL := []) (Wd := 0) (Ctr.pays (len := 3) (Wd := 0) (c_isl l Z a0 hw hEL hJS hJU aD aL hK (w.old ozs) q2) w (wd hw 73 rfl) (wd hw 3 rfl) hEL (by decide) (by decide) sfNil) pd12 rfl (st := []) rfl rfl (Nat.le_of_eq rfl) (dc.g 1 rfl) (by decide) (by decide) ?_
    intro vm206 T207 h208 v209 w210 C211 Q212
    obtain ⟨e2, rfl⟩ := Q212
    subst e2
    show Go κ _ T207 4 #[.val (.ref a), .val (.int (Int32.ofNat i))] [(.int (0 : Int32))]
    refine zEq (pc' := 16) w210.ok (dc.g 2 rfl) (by decide) (by decide) (fun hc213 => ?_) (fun hc213 => absurd rfl hc213)
    show Go κ _ T207 16 #[.val (.ref a), .val (.int (Int32.ofNat i))] []
    refine blk (pc' := 17) (Ls' := #[.val (.ref a), .val (.int (Int32.ofNat i))]) (st' := [(.ref a)]) [oAloadN w210.ok (dc.g 8 rfl)] rfl ?_
    refine w210.get (wd hw 29 rfl) FV (dc.g 9 rfl) ?_
    intro T214 w215
    show Go κ _ T214 20 #[.val (.ref a), .val (.int (Int32.ofNat i))] [(.ref y)]
    refine blk (pc' := 21) (Ls' := #[.val (.ref a), .val (.int (Int32.ofNat i))]) (st' := [(.int (Int32.ofNat i)), (.ref y)]) [oIloadN w215.ok (dc.g 10 rfl)] rfl ?_
    refine w215.callS (wd hw 74 rfl) (wd hw 75 rfl) (wd hw 18 rfl) (wd hw 76 rfl) (by decide) (argsL := [(.ref y), (.int (Int32.ofNat i))]) (Wd := 0) (Ctr.pays (len := 3) (Wd := 0) (c_uca l Z a0 hw hEL hJS hJU aD aL hK (w215.old ozs) q3 hIC hi) w215 (wd hw 76 rfl) (wd hw 18 rfl) hEL (by decide) (by decide) sfNil) pd5 rfl (st := []) rfl rfl (Nat.le_of_eq rfl) (dc.g 11 rfl) (by decide) (by decide) ?_
    intro vm216 T217 h218 v219 w220 C221 Q222
    obtain ⟨e2, rfl⟩ := Q222
    subst e2
    show Go κ _ T217 24 #[.val (.ref a), .val (.int (Int32.ofNat i))] [(.int c)]
    exact w220.retI (t := .char) rfl (Or.inr (Or.inr (Or.inr (Or.inl rfl)))) (narrow_char hcd.1 hcd.2) (dc.g 12 rfl) (by decide) (by decide) (fun S hS => ⟨rfl, rfl⟩)
def D_ord : List (Nat × Instr × Nat) := [(0, .aload_n 0, 1), (1, .getfield 7, 3), (4, .ireturn, 1)]
theorem hD_ord : ∀ q ∈ D_ord, decode jdk_37_method_2_code q.1 = .ok q.2 := by decide +kernel
set_option maxRecDepth 65536 in
set_option maxHeartbeats 4000000 in
theorem c_ord (l : Launch) (Z : State) (a0 : Array Value) (hw : ∀ d ∈ tables_1, d.before a0 Z = true) (hEL : EW Z a0 []) (hJS : JS Z) (hJU : JU Z) (aD aL : Addr) (hK : KD Z aD aL) {a : Addr} {o : Int32} {h : Heap} (F : Fld Z h a "java/lang/Enum" "ordinal" "I" (.int o)) : Ctr l Z [] (⟨"java/lang/Enum", "ordinal", "()I"⟩ : MethodName) jdk_37_method_2_code 1 (some .int) [] ({ frames := 0, cells := 0, slots := 0, locals := 0 } : Room) [] #[(.ref a)] h (fun v h' S => h = h' ∧ v = some (.int o)) := by
  refine enter (a0 := a0) (by first | (simp [plainName, overriddenIn]; done) | decide +kernel) hEL (Ls := #[.val (.ref a)]) (fun m => by first | (simp [entryFrame, mkF, argsToLocals, Value.category]; done) | rfl) ?_
  intro κ vm T hby hs w Sf
  have dc := Dec.of hby hD_ord
  show Go κ (GQ κ Z [] ({ frames := 0, cells := 0, slots := 0, locals := 0 } : Room) (fun v h' S => h = h' ∧ v = some (.int o))) T 0 #[.val (.ref a)] []
  refine blk (pc' := 1) (Ls' := #[.val (.ref a)]) (st' := [(.ref a)]) [oAloadN w.ok (dc.g 0 rfl)] rfl ?_
  refine w.get (wd hw 102 rfl) F (dc.g 1 rfl) ?_
  intro T223 w224
  show Go κ _ T223 4 #[.val (.ref a)] [(.int o)]
  exact w224.retI (t := .int) rfl (Or.inl rfl) rfl (dc.g 2 rfl) (by decide) (by decide) (fun S hS => ⟨rfl, rfl⟩)
def D_holds : List (Nat × Instr × Nat) := [(0, .iload_n 1, 1), (1, .bipush 48, 2), (3, .if_icmp .lt 13, 3), (6, .iload_n 1, 1), (7, .bipush 57, 2), (9, .if_icmp .gt 7, 3), (12, .iconst 1, 1), (13, .goto 4, 3), (16, .iconst 0, 1), (17, .istore_n 2, 1), (18, .aload_n 0, 1), (19, .invokevirtual 47, 3), (22, .lookupswitch 26 #[(0, 36), (1, 40)], 26), (48, .new 50, 3), (51, .dup, 1), (52, .aconst_null, 1), (53, .aconst_null, 1), (54, .invokespecial 52, 3), (57, .athrow, 1), (58, .iload_n 2, 1), (59, .goto 36, 3), (62, .iload_n 2, 1), (63, .ifCond .ne 27, 3), (66, .iload_n 1, 1), (67, .bipush 65, 2), (69, .if_icmp .lt 9, 3), (72, .iload_n 1, 1), (73, .bipush 90, 2), (75, .if_icmp .le 15, 3), (78, .iload_n 1, 1), (79, .bipush 97, 2), (81, .if_icmp .lt 13, 3), (84, .iload_n 1, 1), (85, .bipush 122, 2), (87, .if_icmp .gt 7, 3), (90, .iconst 1, 1), (91, .goto 4, 3), (94, .iconst 0, 1), (95, .ireturn, 1)]
theorem hD_holds : ∀ q ∈ D_holds, decode prog_36_method_6_code q.1 = .ok q.2 := by decide +kernel
set_option maxRecDepth 65536 in
set_option maxHeartbeats 4000000 in
theorem c_holds (l : Launch) (Z : State) (a0 : Array Value) (hw : ∀ d ∈ tables_1, d.before a0 Z = true) (hEL : EW Z a0 []) (hJS : JS Z) (hJU : JU Z) (aD aL : Addr) (hK : KD Z aD aL) {a : Addr} {o c : Int32} {h : Heap} (X : Exa Z h a "com/example/bogenwerk/bogenwerk/HeaderChecks$Characters") (F : Fld Z h a "java/lang/Enum" "ordinal" "I" (.int o)) (ho : o = 0 ∨ o = 1) : Ctr l Z [] (⟨"com/example/bogenwerk/bogenwerk/HeaderChecks$Characters", "holds", "(C)Z"⟩ : MethodName) prog_36_method_6_code 3 (some .boolean) [] ({ frames := 1, cells := 0, slots := 0, locals := 12 } : Room) [] #[(.ref a), (.int c)] h (fun v h' S => h = h' ∧ v = some (.int (if okb o c = true then 1 else 0))) := by
  refine enter (a0 := a0) (by first | (simp [plainName, overriddenIn]; done) | decide +kernel) hEL (Ls := #[.val (.ref a), .val (.int c), .unset]) (fun m => by first | (simp [entryFrame, mkF, argsToLocals, Value.category]; done) | rfl) ?_
  intro κ vm T hby hs w Sf
  have dc := Dec.of hby hD_holds
  show Go κ (GQ κ Z [] ({ frames := 1, cells := 0, slots := 0, locals := 12 } : Room) (fun v h' S => h = h' ∧ v = some (.int (if okb o c = true then 1 else 0)))) T 0 #[.val (.ref a), .val (.int c), .unset] []
  suffices k17 : ∀ r2 : Int32, r2 = (if (!(decide (c < 48)) && !(decide (57 < c))) = true then 1 else 0) → Go κ (GQ κ Z [] ({ frames := 1, cells := 0, slots := 0, locals := 12 } : Room) (fun v h' S => h = h' ∧ v = some (.int (if okb o c = true then 1 else 0)))) T 17 #[.val (.ref a), .val (.int c), .unset] [(.int r2)] by
    refine blk (pc' := 3) (Ls' := #[.val (.ref a), .val (.int c), .unset]) (st' := [(.int (48 : Int32)), (.int c)]) [oIloadN w.ok (dc.g 0 rfl), oBipush w.ok (dc.g 1 rfl)] rfl ?_
    refine cLt (pc' := 16) w.ok (dc.g 2 rfl) (by decide) (by decide) (fun hc225 => ?_) (fun hc225 => ?_)
    · show Go κ _ T 16 #[.val (.ref a), .val (.int c), .unset] []
      refine blk (pc' := 17) (Ls' := #[.val (.ref a), .val (.int c), .unset]) (st' := [(.int (0 : Int32))]) [oIconst w.ok (dc.g 8 rfl)] rfl ?_
      exact k17 _ (by simp [hc225])
    · show Go κ _ T 6 #[.val (.ref a), .val (.int c), .unset] []
      refine blk (pc' := 9) (Ls' := #[.val (.ref a), .val (.int c), .unset]) (st' := [(.int (57 : Int32)), (.int c)]) [oIloadN w.ok (dc.g 3 rfl), oBipush w.ok (dc.g 4 rfl)] rfl ?_
      refine cGt (pc' := 16) w.ok (dc.g 5 rfl) (by decide) (by decide) (fun hc226 => ?_) (fun hc226 => ?_)
      · show Go κ _ T 16 #[.val (.ref a), .val (.int c), .unset] []
        refine blk (pc' := 17) (Ls' := #[.val (.ref a), .val (.int c), .unset]) (st' := [(.int (0 : Int32))]) [oIconst w.ok (dc.g 8 rfl)] rfl ?_
        exact k17 _ (by simp [hc226])
      · show Go κ _ T 12 #[.val (.ref a), .val (.int c), .unset] []
        refine blk (pc' := 17) (Ls' := #[.val (.ref a), .val (.int c), .unset]) (st' := [(.int (1 : Int32))]) [oIconst w.ok (dc.g 6 rfl), oGoto w.ok 17 (dc.g 7 rfl)] rfl ?_
        exact k17 _ (by simp [hc225, hc226])
  intro r2 hr2
  show Go κ _ T 17 #[.val (.ref a), .val (.int c), .unset] [(.int r2)]
  refine blk (pc' := 19) (Ls' := #[.val (.ref a), .val (.int c), .val (.int r2)]) (st' := [(.ref a)]) [oIstoreN w.ok (dc.g 9 rfl), oAloadN w.ok (dc.g 10 rfl)] rfl ?_
  refine w.callUp (wd hw 95 rfl) (wd hw 96 rfl) (wd hw 97 rfl) (by decide) (wd hw 99 rfl) (wd hw 98 rfl) (a := a) X (argsL := []) (Wd := 0) (Ctr.pays (len := 3) (Wd := 0) (c_ord l Z a0 hw hEL hJS hJU aD aL hK F) w (wd hw 101 rfl) (wd hw 100 rfl) hEL (by decide) (by decide) sfNil) pd13 rfl (st := []) rfl rfl (Nat.le_of_eq rfl) (dc.g 11 rfl) (by decide) (by decide) ?_
  intro vm227 T228 h229 v230 w231 C232 Q233
  obtain ⟨eQ233, rfl⟩ := Q233
  subst eQ233
  show Go κ _ T228 22 #[.val (.ref a), .val (.int c), .val (.int r2)] [(.int o)]
  rcases ho with rfl | rfl
  · show Go κ _ T228 22 #[.val (.ref a), .val (.int c), .val (.int r2)] [(.int (0 : Int32))]
    refine w231.lsw (pc' := 58) (dc.g 12 rfl) (by decide) (p := (0, 36)) rfl (by decide) (by decide) ?_
    show Go κ _ T228 58 #[.val (.ref a), .val (.int c), .val (.int r2)] []
    refine blk (pc' := 95) (Ls' := #[.val (.ref a), .val (.int c), .val (.int r2)]) (st' := [(.int r2)]) [oIloadN w231.ok (dc.g 19 rfl), oGoto w231.ok 95 (dc.g 20 rfl)] rfl ?_
    exact w231.retI (t := .boolean) rfl (Or.inr (Or.inl rfl)) (by rw [hr2]; split <;> rfl) (dc.g 38 rfl) (by decide) (by decide) (fun S hS => ⟨rfl, by rw [hr2]; simp [okb]⟩)
  · show Go κ _ T228 22 #[.val (.ref a), .val (.int c), .val (.int r2)] [(.int (1 : Int32))]
    refine w231.lsw (pc' := 62) (dc.g 12 rfl) (by decide) (p := (1, 40)) rfl (by decide) (by decide) ?_
    show Go κ _ T228 62 #[.val (.ref a), .val (.int c), .val (.int r2)] []
    refine blk (pc' := 63) (Ls' := #[.val (.ref a), .val (.int c), .val (.int r2)]) (st' := [(.int r2)]) [oIloadN w231.ok (dc.g 21 rfl)] rfl ?_
    refine zNe (pc' := 90) w231.ok (dc.g 22 rfl) (by decide) (by decide) (fun hc234 => ?_) (fun hc234 => ?_)
    · show Go κ _ T228 90 #[.val (.ref a), .val (.int c), .val (.int r2)] []
      refine blk (pc' := 95) (Ls' := #[.val (.ref a), .val (.int c), .val (.int r2)]) (st' := [(.int (1 : Int32))]) [oIconst w231.ok (dc.g 35 rfl), oGoto w231.ok 95 (dc.g 36 rfl)] rfl ?_
      exact w231.retI (t := .boolean) rfl (Or.inr (Or.inl rfl)) rfl (dc.g 38 rfl) (by decide) (by decide) (fun S hS => ⟨rfl, by rw [if_pos (okb_dig hr2 hc234)]⟩)
    · show Go κ _ T228 66 #[.val (.ref a), .val (.int c), .val (.int r2)] []
      have hd0 := okb_nod hr2 hc234
      refine blk (pc' := 69) (Ls' := #[.val (.ref a), .val (.int c), .val (.int r2)]) (st' := [(.int (65 : Int32)), (.int c)]) [oIloadN w231.ok (dc.g 23 rfl), oBipush w231.ok (dc.g 24 rfl)] rfl ?_
      refine cLt (pc' := 78) w231.ok (dc.g 25 rfl) (by decide) (by decide) (fun hc235 => ?_) (fun hc235 => ?_)
      · show Go κ _ T228 78 #[.val (.ref a), .val (.int c), .val (.int r2)] []
        refine blk (pc' := 81) (Ls' := #[.val (.ref a), .val (.int c), .val (.int r2)]) (st' := [(.int (97 : Int32)), (.int c)]) [oIloadN w231.ok (dc.g 29 rfl), oBipush w231.ok (dc.g 30 rfl)] rfl ?_
        refine cLt (pc' := 94) w231.ok (dc.g 31 rfl) (by decide) (by decide) (fun hc236 => ?_) (fun hc236 => ?_)
        · show Go κ _ T228 94 #[.val (.ref a), .val (.int c), .val (.int r2)] []
          refine blk (pc' := 95) (Ls' := #[.val (.ref a), .val (.int c), .val (.int r2)]) (st' := [(.int (0 : Int32))]) [oIconst w231.ok (dc.g 37 rfl)] rfl ?_
          exact w231.retI (t := .boolean) rfl (Or.inr (Or.inl rfl)) rfl (dc.g 38 rfl) (by decide) (by decide) (fun S hS => ⟨rfl, by simp [okb, hd0, hc235, hc236]⟩)
        · show Go κ _ T228 84 #[.val (.ref a), .val (.int c), .val (.int r2)] []
          refine blk (pc' := 87) (Ls' := #[.val (.ref a), .val (.int c), .val (.int r2)]) (st' := [(.int (122 : Int32)), (.int c)]) [oIloadN w231.ok (dc.g 32 rfl), oBipush w231.ok (dc.g 33 rfl)] rfl ?_
          refine cGt (pc' := 94) w231.ok (dc.g 34 rfl) (by decide) (by decide) (fun hc237 => ?_) (fun hc237 => ?_)
          · show Go κ _ T228 94 #[.val (.ref a), .val (.int c), .val (.int r2)] []
            refine blk (pc' := 95) (Ls' := #[.val (.ref a), .val (.int c), .val (.int r2)]) (st' := [(.int (0 : Int32))]) [oIconst w231.ok (dc.g 37 rfl)] rfl ?_
            exact w231.retI (t := .boolean) rfl (Or.inr (Or.inl rfl)) rfl (dc.g 38 rfl) (by decide) (by decide) (fun S hS => ⟨rfl, by simp [okb, hd0, hc235, hc236, hc237]⟩)
          · show Go κ _ T228 90 #[.val (.ref a), .val (.int c), .val (.int r2)] []
            refine blk (pc' := 95) (Ls' := #[.val (.ref a), .val (.int c), .val (.int r2)]) (st' := [(.int (1 : Int32))]) [oIconst w231.ok (dc.g 35 rfl), oGoto w231.ok 95 (dc.g 36 rfl)] rfl ?_
            exact w231.retI (t := .boolean) rfl (Or.inr (Or.inl rfl)) rfl (dc.g 38 rfl) (by decide) (by decide) (fun S hS => ⟨rfl, by simp [okb, hd0, hc235, hc236, hc237]⟩)
      · show Go κ _ T228 72 #[.val (.ref a), .val (.int c), .val (.int r2)] []
        refine blk (pc' := 75) (Ls' := #[.val (.ref a), .val (.int c), .val (.int r2)]) (st' := [(.int (90 : Int32)), (.int c)]) [oIloadN w231.ok (dc.g 26 rfl), oBipush w231.ok (dc.g 27 rfl)] rfl ?_
        refine cLe (pc' := 90) w231.ok (dc.g 28 rfl) (by decide) (by decide) (fun hc238 => ?_) (fun hc238 => ?_)
        · show Go κ _ T228 90 #[.val (.ref a), .val (.int c), .val (.int r2)] []
          refine blk (pc' := 95) (Ls' := #[.val (.ref a), .val (.int c), .val (.int r2)]) (st' := [(.int (1 : Int32))]) [oIconst w231.ok (dc.g 35 rfl), oGoto w231.ok 95 (dc.g 36 rfl)] rfl ?_
          exact w231.retI (t := .boolean) rfl (Or.inr (Or.inl rfl)) rfl (dc.g 38 rfl) (by decide) (by decide) (fun S hS => ⟨rfl, by simp [okb, hd0, hc235, hc238]⟩)
        · show Go κ _ T228 78 #[.val (.ref a), .val (.int c), .val (.int r2)] []
          refine blk (pc' := 81) (Ls' := #[.val (.ref a), .val (.int c), .val (.int r2)]) (st' := [(.int (97 : Int32)), (.int c)]) [oIloadN w231.ok (dc.g 29 rfl), oBipush w231.ok (dc.g 30 rfl)] rfl ?_
          refine cLt (pc' := 94) w231.ok (dc.g 31 rfl) (by decide) (by decide) (fun hc239 => ?_) (fun hc239 => ?_)
          · show Go κ _ T228 94 #[.val (.ref a), .val (.int c), .val (.int r2)] []
            refine blk (pc' := 95) (Ls' := #[.val (.ref a), .val (.int c), .val (.int r2)]) (st' := [(.int (0 : Int32))]) [oIconst w231.ok (dc.g 37 rfl)] rfl ?_
            exact w231.retI (t := .boolean) rfl (Or.inr (Or.inl rfl)) rfl (dc.g 38 rfl) (by decide) (by decide) (fun S hS => ⟨rfl, by simp [okb, hd0, hc235, hc238, hc239]⟩)
          · show Go κ _ T228 84 #[.val (.ref a), .val (.int c), .val (.int r2)] []
            refine blk (pc' := 87) (Ls' := #[.val (.ref a), .val (.int c), .val (.int r2)]) (st' := [(.int (122 : Int32)), (.int c)]) [oIloadN w231.ok (dc.g 32 rfl), oBipush w231.ok (dc.g 33 rfl)] rfl ?_
            refine cGt (pc' := 94) w231.ok (dc.g 34 rfl) (by decide) (by decide) (fun hc240 => ?_) (fun hc240 => ?_)
            · show Go κ _ T228 94 #[.val (.ref a), .val (.int c), .val (.int r2)] []
              refine blk (pc' := 95) (Ls' := #[.val (.ref a), .val (.int c), .val (.int r2)]) (st' := [(.int (0 : Int32))]) [oIconst w231.ok (dc.g 37 rfl)] rfl ?_
              exact w231.retI (t := .boolean) rfl (Or.inr (Or.inl rfl)) rfl (dc.g 38 rfl) (by decide) (by decide) (fun S hS => ⟨rfl, by simp [okb, hd0, hc235, hc238, hc239, hc240]⟩)
            · show Go κ _ T228 90 #[.val (.ref a), .val (.int c), .val (.int r2)] []
              refine blk (pc' := 95) (Ls' := #[.val (.ref a), .val (.int c), .val (.int r2)]) (st' := [(.int (1 : Int32))]) [oIconst w231.ok (dc.g 35 rfl), oGoto w231.ok 95 (dc.g 36 rfl)] rfl ?_
              exact w231.retI (t := .boolean) rfl (Or.inr (Or.inl rfl)) rfl (dc.g 38 rfl) (by decide) (by decide) (fun S hS => ⟨rfl, by simp [okb, hd0, hc235, hc238, hc239, hc240]⟩)
def D_fill : List (Nat × Instr × Nat) := [(0, .iload_n 2, 1), (1, .istore 4, 2), (3, .iload 4, 2), (5, .iload_n 3, 1), (6, .if_icmp .ge 24, 3), (9, .aload_n 0, 1), (10, .aload_n 1, 1), (11, .iload 4, 2), (13, .invokevirtual 39, 3), (16, .invokevirtual 43, 3), (19, .ifCond .ne 5, 3), (22, .iconst 0, 1), (23, .ireturn, 1), (24, .iinc 4 1, 3), (27, .goto (-24), 3), (30, .iconst 1, 1), (31, .ireturn, 1)]
theorem hD_fill : ∀ q ∈ D_fill, decode prog_36_method_5_code q.1 = .ok q.2 := by decide +kernel
set_option maxRecDepth 65536 in
set_option maxHeartbeats 4000000 in
theorem c_fill (l : Launch) (Z : State) (a0 : Array Value) (hw : ∀ d ∈ tables_1, d.before a0 Z = true) (hEL : EW Z a0 []) (hJS : JS Z) (hJU : JU Z) (aD aL : Addr) (hK : KD Z aD aL) {a u : Addr} {o : Int32} {f t : Nat} {cs : List Int32} {h : Heap} (oz : Ext Z.heap h) (X : Exa Z h a "com/example/bogenwerk/bogenwerk/HeaderChecks$Characters") (F : Fld Z h a "java/lang/Enum" "ordinal" "I" (.int o)) (ho : o = 0 ∨ o = 1) (FS : Str Z h u cs) (ht : t ≤ cs.length) (hfb : f < 2147483648) : Ctr l Z [] (⟨"com/example/bogenwerk/bogenwerk/HeaderChecks$Characters", "fill", "(Ljava/lang/String;II)Z"⟩ : MethodName) prog_36_method_5_code 5 (some .boolean) [] ({ frames := 5, cells := 0, slots := 0, locals := 70 } : Room) [] #[(.ref a), (.ref u), (.int (Int32.ofNat f)), (.int (Int32.ofNat t))] h (fun v h' S => h = h' ∧ v = some (.int (if ((cs.take t).drop f).all (okb o) = true then 1 else 0))) := by
  refine enter (a0 := a0) (by first | (simp [plainName, overriddenIn]; done) | decide +kernel) hEL (Ls := #[.val (.ref a), .val (.ref u), .val (.int (Int32.ofNat f)), .val (.int (Int32.ofNat t)), .unset]) (fun m => by first | (simp [entryFrame, mkF, argsToLocals, Value.category]; done) | rfl) ?_
  intro κ vm T hby hs w Sf
  have dc := Dec.of hby hD_fill
  show Go κ (GQ κ Z [] ({ frames := 5, cells := 0, slots := 0, locals := 70 } : Room) (fun v h' S => h = h' ∧ v = some (.int (if ((cs.take t).drop f).all (okb o) = true then 1 else 0)))) T 0 #[.val (.ref a), .val (.ref u), .val (.int (Int32.ofNat f)), .val (.int (Int32.ofNat t)), .unset] []
  have ozs : Ext Z.heap κ.s.heap := by rw [hs]; exact oz
  have hl := FS.len_lt
  have key : ∀ (g i : Nat), (t ≤ i ∧ g = 0) ∨ i + g = t → f ≤ i → i < 2147483648 → ((cs.take t).drop f).all (okb o) = ((cs.take t).drop i).all (okb o) → ∀ (vm1 : Vm) (T1 : State), W κ l ({ frames := 5, cells := 0, slots := 0, locals := 70 } : Room) Z [] "com/example/bogenwerk/bogenwerk/HeaderChecks$Characters" "fill" 5 (some .boolean) vm1 T1 h 0 0 → Go κ (GQ κ Z [] ({ frames := 5, cells := 0, slots := 0, locals := 70 } : Room) (fun v h' S => h = h' ∧ v = some (.int (if ((cs.take t).drop f).all (okb o) = true then 1 else 0)))) T1 3 #[.val (.ref a), .val (.ref u), .val (.int (Int32.ofNat f)), .val (.int (Int32.ofNat t)), .val (.int (Int32.ofNat i))] [] := by
    intro g
    induction g with
    | zero =>
      intro i hi hf hb he vm1 T1 w1
      have hti : t ≤ i := by omega
      show Go κ _ T1 3 #[.val (.ref a), .val (.ref u), .val (.int (Int32.ofNat f)), .val (.int (Int32.ofNat t)), .val (.int (Int32.ofNat i))] []
      refine blk (pc' := 6) (Ls' := #[.val (.ref a), .val (.ref u), .val (.int (Int32.ofNat f)), .val (.int (Int32.ofNat t)), .val (.int (Int32.ofNat i))]) (st' := [(.int (Int32.ofNat t)), (.int (Int32.ofNat i))]) [oIload w1.ok (dc.g 2 rfl), oIloadN w1.ok (dc.g 3 rfl)] rfl ?_
      refine cGe (pc' := 30) w1.ok (dc.g 4 rfl) (by decide) (by decide) (fun hc241 => ?_) (fun hc241 => absurd hc241 (fun q => absurd q (by rw [ofNat_lt (by omega) (by omega)]; omega)))
      show Go κ _ T1 30 #[.val (.ref a), .val (.ref u), .val (.int (Int32.ofNat f)), .val (.int (Int32.ofNat t)), .val (.int (Int32.ofNat i))] []
      refine blk (pc' := 31) (Ls' := #[.val (.ref a), .val (.ref u), .val (.int (Int32.ofNat f)), .val (.int (Int32.ofNat t)), .val (.int (Int32.ofNat i))]) (st' := [(.int (1 : Int32))]) [oIconst w1.ok (dc.g 15 rfl)] rfl ?_
      exact w1.retI (t := .boolean) rfl (Or.inr (Or.inl rfl)) rfl (dc.g 16 rfl) (by decide) (by decide) (fun S hS => ⟨rfl, by rw [he, List.drop_eq_nil_of_le (by rw [List.length_take]; omega)]; rfl⟩)
    | succ g ih =>
      intro i hi hf hb he vm1 T1 w1
      have hti : i + (g + 1) = t := by omega
      obtain ⟨c, hc⟩ : ∃ c, cs[i]? = some c := ⟨_, List.getElem?_eq_getElem (by omega)⟩
      have hdr : (cs.take t).drop i = c :: (cs.take t).drop (i + 1) := by
        have hq : (cs.take t)[i]? = some c := by rw [List.getElem?_take]; simp [show i < t by omega, hc]
        obtain ⟨q1, q2⟩ := List.getElem?_eq_some_iff.mp hq
        rw [List.drop_eq_getElem_cons q1, q2]
      show Go κ _ T1 3 #[.val (.ref a), .val (.ref u), .val (.int (Int32.ofNat f)), .val (.int (Int32.ofNat t)), .val (.int (Int32.ofNat i))] []
      refine blk (pc' := 6) (Ls' := #[.val (.ref a), .val (.ref u), .val (.int (Int32.ofNat f)), .val (.int (Int32.ofNat t)), .val (.int (Int32.ofNat i))]) (st' := [(.int (Int32.ofNat t)), (.int (Int32.ofNat i))]) [oIload w1.ok (dc.g 2 rfl), oIloadN w1.ok (dc.g 3 rfl)] rfl ?_
      refine cGe (pc' := 30) w1.ok (dc.g 4 rfl) (by decide) (by decide) (fun hc242 => absurd ((ofNat_lt (by omega) (by omega)).mpr (by omega)) hc242) (fun hc242 => ?_)
      show Go κ _ T1 9 #[.val (.ref a), .val (.ref u), .val (.int (Int32.ofNat f)), .val (.int (Int32.ofNat t)), .val (.int (Int32.ofNat i))] []
      refine blk (pc' := 13) (Ls' := #[.val (.ref a), .val (.ref u), .val (.int (Int32.ofNat f)), .val (.int (Int32.ofNat t)), .val (.int (Int32.ofNat i))]) (st' := [(.int (Int32.ofNat i)), (.ref u), (.ref a)]) [oAloadN w1.ok (dc.g 5 rfl), oAloadN w1.ok (dc.g 6 rfl), oIload w1.ok (dc.g 7 rfl)] rfl ?_
      refine w1.callV (wd hw 64 rfl) (wd hw 65 rfl) (notFace (wd hw 67 rfl)) (wd hw 67 rfl) (wd hw 66 rfl) (by decide) (a := u) FS.exa (argsL := [(.int (Int32.ofNat i))]) (Wd := 1) (Ctr.pays (len := 3) (Wd := 1) (c_cha l Z a0 hw hEL hJS hJU aD aL hK (w1.old ozs) FS hc) w1 (wd hw 68 rfl) (wd hw 3 rfl) hEL (by decide) (by decide) sfNil) pd14 rfl (st := [(.ref a)]) rfl rfl (Nat.le_of_eq rfl) (dc.g 8 rfl) (by decide) (by decide) ?_
      intro vm243 T244 h245 v246 w247 C248 Q249
      obtain ⟨e2, rfl⟩ := Q249
      subst e2
      show Go κ _ T244 16 #[.val (.ref a), .val (.ref u), .val (.int (Int32.ofNat f)), .val (.int (Int32.ofNat t)), .val (.int (Int32.ofNat i))] [(.int c), (.ref a)]
      refine w247.callP (wd hw 91 rfl) (wd hw 92 rfl) (notFaceAs (y' := ⟨"com/example/bogenwerk/bogenwerk/HeaderChecks$Characters", "fill", "(Ljava/lang/String;II)Z"⟩) rfl (wd hw 37 rfl) (wd hw 36 rfl)) (wd hw 93 rfl) (wd hw 94 rfl) (by decide) (a := a) X (argsL := [(.int c)]) (Wd := 0) (Ctr.pays (len := 3) (Wd := 0) (c_holds l Z a0 hw hEL hJS hJU aD aL hK X F ho) w247 (wd hw 94 rfl) (wd hw 32 rfl) hEL (by decide) (by decide) sfNil) pd15 rfl (st := []) rfl rfl (Nat.le_of_eq rfl) (dc.g 9 rfl) (by decide) (by decide) ?_
      intro vm250 T251 h252 v253 w254 C255 Q256
      obtain ⟨eQ256, rfl⟩ := Q256
      subst eQ256
      show Go κ _ T251 19 #[.val (.ref a), .val (.ref u), .val (.int (Int32.ofNat f)), .val (.int (Int32.ofNat t)), .val (.int (Int32.ofNat i))] [(.int (if okb o c = true then (1 : Int32) else 0))]
      cases hk : okb o c
      · refine Go.top (y := (0 : Int32)) (if_neg (by decide)) ?_
        show Go κ _ T251 19 #[.val (.ref a), .val (.ref u), .val (.int (Int32.ofNat f)), .val (.int (Int32.ofNat t)), .val (.int (Int32.ofNat i))] [(.int (0 : Int32))]
        refine zNe (pc' := 24) w254.ok (dc.g 10 rfl) (by decide) (by decide) (fun hc257 => absurd rfl hc257) (fun hc257 => ?_)
        show Go κ _ T251 22 #[.val (.ref a), .val (.ref u), .val (.int (Int32.ofNat f)), .val (.int (Int32.ofNat t)), .val (.int (Int32.ofNat i))] []
        refine blk (pc' := 23) (Ls' := #[.val (.ref a), .val (.ref u), .val (.int (Int32.ofNat f)), .val (.int (Int32.ofNat t)), .val (.int (Int32.ofNat i))]) (st' := [(.int (0 : Int32))]) [oIconst w254.ok (dc.g 11 rfl)] rfl ?_
        exact w254.retI (t := .boolean) rfl (Or.inr (Or.inl rfl)) rfl (dc.g 12 rfl) (by decide) (by decide) (fun S hS => ⟨rfl, by rw [he, hdr, List.all_cons, hk]; rfl⟩)
      · refine Go.top (y := (1 : Int32)) (if_pos rfl) ?_
        show Go κ _ T251 19 #[.val (.ref a), .val (.ref u), .val (.int (Int32.ofNat f)), .val (.int (Int32.ofNat t)), .val (.int (Int32.ofNat i))] [(.int (1 : Int32))]
        refine zNe (pc' := 24) w254.ok (dc.g 10 rfl) (by decide) (by decide) (fun hc258 => ?_) (fun hc258 => absurd hc258 (by decide))
        show Go κ _ T251 24 #[.val (.ref a), .val (.ref u), .val (.int (Int32.ofNat f)), .val (.int (Int32.ofNat t)), .val (.int (Int32.ofNat i))] []
        refine blk (pc' := 3) (Ls' := #[.val (.ref a), .val (.ref u), .val (.int (Int32.ofNat f)), .val (.int (Int32.ofNat t)), .val (.int ((Int32.ofNat i) + (1 : Int32)))]) (st' := []) [oIinc w254.ok (dc.g 13 rfl), oGoto w254.ok 3 (dc.g 14 rfl)] rfl ?_
        rw [ofNat_succ]
        exact ih (i + 1) (Or.inr (by omega)) (by omega) (by omega) (by rw [he, hdr, List.all_cons, hk, Bool.true_and]) _ _ w254
  refine blk (pc' := 3) (Ls' := #[.val (.ref a), .val (.ref u), .val (.int (Int32.ofNat f)), .val (.int (Int32.ofNat t)), .val (.int (Int32.ofNat f))]) (st' := []) [oIloadN w.ok (dc.g 0 rfl), oIstore w.ok (dc.g 1 rfl)] rfl ?_
  exact key (t - f) f (by omega) (Nat.le_refl _) hfb rfl _ _ w
def D_ins : List (Nat × Instr × Nat) := [(0, .iload_n 1, 1), (1, .bipush 48, 2), (3, .if_icmp .lt 11, 3), (6, .iload_n 1, 1), (7, .bipush 57, 2), (9, .if_icmp .gt 5, 3), (12, .iconst 1, 1), (13, .ireturn, 1), (14, .iload_n 0, 1), (15, .ifCond .ne 5, 3), (18, .iconst 0, 1), (19, .ireturn, 1), (20, .iload_n 1, 1), (21, .bipush 65, 2), (23, .if_icmp .lt 11, 3), (26, .iload_n 1, 1), (27, .bipush 90, 2), (29, .if_icmp .gt 5, 3), (32, .iconst 1, 1), (33, .ireturn, 1), (34, .iload_n 1, 1), (35, .bipush 97, 2), (37, .if_icmp .lt 13, 3), (40, .iload_n 1, 1), (41, .bipush 122, 2), (43, .if_icmp .gt 7, 3), (46, .iconst 1, 1), (47, .goto 4, 3), (50, .iconst 0, 1), (51, .ireturn, 1)]
theorem hD_ins : ∀ q ∈ D_ins, decode method_2_code q.1 = .ok q.2 := by decide +kernel
set_option maxRecDepth 65536 in
set_option maxHeartbeats 4000000 in
theorem c_ins (l : Launch) (Z : State) (a0 : Array Value) (hw : ∀ d ∈ tables_1, d.before a0 Z = true) (hEL : EW Z a0 []) (hJS : JS Z) (hJU : JU Z) (aD aL : Addr) (hK : KD Z aD aL) {o c : Int32} {h : Heap} (ho : o = 0 ∨ o = 1) : Ctr l Z [] (⟨"com/example/bogenwerk/bogenwerk/CharactersFillPinLaw", "inSet", "(ZC)Z"⟩ : MethodName) method_2_code 2 (some .boolean) [] ({ frames := 0, cells := 0, slots := 0, locals := 0 } : Room) [] #[(.int o), (.int c)] h (fun v h' S => h = h' ∧ v = some (.int (if okb o c = true then 1 else 0))) := by
  refine enter (a0 := a0) (by first | (simp [plainName, overriddenIn]; done) | decide +kernel) hEL (Ls := #[.val (.int o), .val (.int c)]) (fun m => by first | (simp [entryFrame, mkF, argsToLocals, Value.category]; done) | rfl) ?_
  intro κ vm T hby hs w Sf
  have dc := Dec.of hby hD_ins
  show Go κ (GQ κ Z [] ({ frames := 0, cells := 0, slots := 0, locals := 0 } : Room) (fun v h' S => h = h' ∧ v = some (.int (if okb o c = true then 1 else 0)))) T 0 #[.val (.int o), .val (.int c)] []
  refine blk (pc' := 3) (Ls' := #[.val (.int o), .val (.int c)]) (st' := [(.int (48 : Int32)), (.int c)]) [oIloadN w.ok (dc.g 0 rfl), oBipush w.ok (dc.g 1 rfl)] rfl ?_
  refine cLt (pc' := 14) w.ok (dc.g 2 rfl) (by decide) (by decide) (fun hc259 => ?_) (fun hc259 => ?_)
  · show Go κ _ T 14 #[.val (.int o), .val (.int c)] []
    refine blk (pc' := 15) (Ls' := #[.val (.int o), .val (.int c)]) (st' := [(.int o)]) [oIloadN w.ok (dc.g 8 rfl)] rfl ?_
    refine zNe (pc' := 20) w.ok (dc.g 9 rfl) (by decide) (by decide) (fun hc260 => ?_) (fun hc260 => ?_)
    · show Go κ _ T 20 #[.val (.int o), .val (.int c)] []
      have ho1 : o = 1 := ho.resolve_left hc260
      refine blk (pc' := 23) (Ls' := #[.val (.int o), .val (.int c)]) (st' := [(.int (65 : Int32)), (.int c)]) [oIloadN w.ok (dc.g 12 rfl), oBipush w.ok (dc.g 13 rfl)] rfl ?_
      refine cLt (pc' := 34) w.ok (dc.g 14 rfl) (by decide) (by decide) (fun hc261 => ?_) (fun hc261 => ?_)
      · show Go κ _ T 34 #[.val (.int o), .val (.int c)] []
        refine blk (pc' := 37) (Ls' := #[.val (.int o), .val (.int c)]) (st' := [(.int (97 : Int32)), (.int c)]) [oIloadN w.ok (dc.g 20 rfl), oBipush w.ok (dc.g 21 rfl)] rfl ?_
        refine cLt (pc' := 50) w.ok (dc.g 22 rfl) (by decide) (by decide) (fun hc262 => ?_) (fun hc262 => ?_)
        · show Go κ _ T 50 #[.val (.int o), .val (.int c)] []
          refine blk (pc' := 51) (Ls' := #[.val (.int o), .val (.int c)]) (st' := [(.int (0 : Int32))]) [oIconst w.ok (dc.g 28 rfl)] rfl ?_
          exact w.retI (t := .boolean) rfl (Or.inr (Or.inl rfl)) rfl (dc.g 29 rfl) (by decide) (by decide) (fun S hS => ⟨rfl, by simp [okb, hc259, ho1, hc261, hc262]⟩)
        · show Go κ _ T 40 #[.val (.int o), .val (.int c)] []
          refine blk (pc' := 43) (Ls' := #[.val (.int o), .val (.int c)]) (st' := [(.int (122 : Int32)), (.int c)]) [oIloadN w.ok (dc.g 23 rfl), oBipush w.ok (dc.g 24 rfl)] rfl ?_
          refine cGt (pc' := 50) w.ok (dc.g 25 rfl) (by decide) (by decide) (fun hc263 => ?_) (fun hc263 => ?_)
          · show Go κ _ T 50 #[.val (.int o), .val (.int c)] []
            refine blk (pc' := 51) (Ls' := #[.val (.int o), .val (.int c)]) (st' := [(.int (0 : Int32))]) [oIconst w.ok (dc.g 28 rfl)] rfl ?_
            exact w.retI (t := .boolean) rfl (Or.inr (Or.inl rfl)) rfl (dc.g 29 rfl) (by decide) (by decide) (fun S hS => ⟨rfl, by simp [okb, hc259, ho1, hc261, hc262, hc263]⟩)
          · show Go κ _ T 46 #[.val (.int o), .val (.int c)] []
            refine blk (pc' := 51) (Ls' := #[.val (.int o), .val (.int c)]) (st' := [(.int (1 : Int32))]) [oIconst w.ok (dc.g 26 rfl), oGoto w.ok 51 (dc.g 27 rfl)] rfl ?_
            exact w.retI (t := .boolean) rfl (Or.inr (Or.inl rfl)) rfl (dc.g 29 rfl) (by decide) (by decide) (fun S hS => ⟨rfl, by simp [okb, hc259, ho1, hc261, hc262, hc263]⟩)
      · show Go κ _ T 26 #[.val (.int o), .val (.int c)] []
        refine blk (pc' := 29) (Ls' := #[.val (.int o), .val (.int c)]) (st' := [(.int (90 : Int32)), (.int c)]) [oIloadN w.ok (dc.g 15 rfl), oBipush w.ok (dc.g 16 rfl)] rfl ?_
        refine cGt (pc' := 34) w.ok (dc.g 17 rfl) (by decide) (by decide) (fun hc264 => ?_) (fun hc264 => ?_)
        · show Go κ _ T 34 #[.val (.int o), .val (.int c)] []
          refine blk (pc' := 37) (Ls' := #[.val (.int o), .val (.int c)]) (st' := [(.int (97 : Int32)), (.int c)]) [oIloadN w.ok (dc.g 20 rfl), oBipush w.ok (dc.g 21 rfl)] rfl ?_
          refine cLt (pc' := 50) w.ok (dc.g 22 rfl) (by decide) (by decide) (fun hc265 => ?_) (fun hc265 => ?_)
          · show Go κ _ T 50 #[.val (.int o), .val (.int c)] []
            refine blk (pc' := 51) (Ls' := #[.val (.int o), .val (.int c)]) (st' := [(.int (0 : Int32))]) [oIconst w.ok (dc.g 28 rfl)] rfl ?_
            exact w.retI (t := .boolean) rfl (Or.inr (Or.inl rfl)) rfl (dc.g 29 rfl) (by decide) (by decide) (fun S hS => ⟨rfl, by simp [okb, hc259, ho1, hc261, hc264, hc265]⟩)
          · show Go κ _ T 40 #[.val (.int o), .val (.int c)] []
            refine blk (pc' := 43) (Ls' := #[.val (.int o), .val (.int c)]) (st' := [(.int (122 : Int32)), (.int c)]) [oIloadN w.ok (dc.g 23 rfl), oBipush w.ok (dc.g 24 rfl)] rfl ?_
            refine cGt (pc' := 50) w.ok (dc.g 25 rfl) (by decide) (by decide) (fun hc266 => ?_) (fun hc266 => ?_)
            · show Go κ _ T 50 #[.val (.int o), .val (.int c)] []
              refine blk (pc' := 51) (Ls' := #[.val (.int o), .val (.int c)]) (st' := [(.int (0 : Int32))]) [oIconst w.ok (dc.g 28 rfl)] rfl ?_
              exact w.retI (t := .boolean) rfl (Or.inr (Or.inl rfl)) rfl (dc.g 29 rfl) (by decide) (by decide) (fun S hS => ⟨rfl, by simp [okb, hc259, ho1, hc261, hc264, hc265, hc266]⟩)
            · show Go κ _ T 46 #[.val (.int o), .val (.int c)] []
              refine blk (pc' := 51) (Ls' := #[.val (.int o), .val (.int c)]) (st' := [(.int (1 : Int32))]) [oIconst w.ok (dc.g 26 rfl), oGoto w.ok 51 (dc.g 27 rfl)] rfl ?_
              exact w.retI (t := .boolean) rfl (Or.inr (Or.inl rfl)) rfl (dc.g 29 rfl) (by decide) (by decide) (fun S hS => ⟨rfl, by simp [okb, hc259, ho1, hc261, hc264, hc265, hc266]⟩)
        · show Go κ _ T 32 #[.val (.int o), .val (.int c)] []
          refine blk (pc' := 33) (Ls' := #[.val (.int o), .val (.int c)]) (st' := [(.int (1 : Int32))]) [oIconst w.ok (dc.g 18 rfl)] rfl ?_
          exact w.retI (t := .boolean) rfl (Or.inr (Or.inl rfl)) rfl (dc.g 19 rfl) (by decide) (by decide) (fun S hS => ⟨rfl, by simp [okb, hc259, ho1, hc261, hc264]⟩)
    · show Go κ _ T 18 #[.val (.int o), .val (.int c)] []
      refine blk (pc' := 19) (Ls' := #[.val (.int o), .val (.int c)]) (st' := [(.int (0 : Int32))]) [oIconst w.ok (dc.g 10 rfl)] rfl ?_
      exact w.retI (t := .boolean) rfl (Or.inr (Or.inl rfl)) rfl (dc.g 11 rfl) (by decide) (by decide) (fun S hS => ⟨rfl, by simp [okb, hc259, hc260]⟩)
  · show Go κ _ T 6 #[.val (.int o), .val (.int c)] []
    refine blk (pc' := 9) (Ls' := #[.val (.int o), .val (.int c)]) (st' := [(.int (57 : Int32)), (.int c)]) [oIloadN w.ok (dc.g 3 rfl), oBipush w.ok (dc.g 4 rfl)] rfl ?_
    refine cGt (pc' := 14) w.ok (dc.g 5 rfl) (by decide) (by decide) (fun hc267 => ?_) (fun hc267 => ?_)
    · show Go κ _ T 14 #[.val (.int o), .val (.int c)] []
      refine blk (pc' := 15) (Ls' := #[.val (.int o), .val (.int c)]) (st' := [(.int o)]) [oIloadN w.ok (dc.g 8 rfl)] rfl ?_
      refine zNe (pc' := 20) w.ok (dc.g 9 rfl) (by decide) (by decide) (fun hc268 => ?_) (fun hc268 => ?_)
      · show Go κ _ T 20 #[.val (.int o), .val (.int c)] []
        have ho1 : o = 1 := ho.resolve_left hc268
        refine blk (pc' := 23) (Ls' := #[.val (.int o), .val (.int c)]) (st' := [(.int (65 : Int32)), (.int c)]) [oIloadN w.ok (dc.g 12 rfl), oBipush w.ok (dc.g 13 rfl)] rfl ?_
        refine cLt (pc' := 34) w.ok (dc.g 14 rfl) (by decide) (by decide) (fun hc269 => ?_) (fun hc269 => ?_)
        · show Go κ _ T 34 #[.val (.int o), .val (.int c)] []
          refine blk (pc' := 37) (Ls' := #[.val (.int o), .val (.int c)]) (st' := [(.int (97 : Int32)), (.int c)]) [oIloadN w.ok (dc.g 20 rfl), oBipush w.ok (dc.g 21 rfl)] rfl ?_
          refine cLt (pc' := 50) w.ok (dc.g 22 rfl) (by decide) (by decide) (fun hc270 => ?_) (fun hc270 => ?_)
          · show Go κ _ T 50 #[.val (.int o), .val (.int c)] []
            refine blk (pc' := 51) (Ls' := #[.val (.int o), .val (.int c)]) (st' := [(.int (0 : Int32))]) [oIconst w.ok (dc.g 28 rfl)] rfl ?_
            exact w.retI (t := .boolean) rfl (Or.inr (Or.inl rfl)) rfl (dc.g 29 rfl) (by decide) (by decide) (fun S hS => ⟨rfl, by simp [okb, hc259, hc267, ho1, hc269, hc270]⟩)
          · show Go κ _ T 40 #[.val (.int o), .val (.int c)] []
            refine blk (pc' := 43) (Ls' := #[.val (.int o), .val (.int c)]) (st' := [(.int (122 : Int32)), (.int c)]) [oIloadN w.ok (dc.g 23 rfl), oBipush w.ok (dc.g 24 rfl)] rfl ?_
            refine cGt (pc' := 50) w.ok (dc.g 25 rfl) (by decide) (by decide) (fun hc271 => ?_) (fun hc271 => ?_)
            · show Go κ _ T 50 #[.val (.int o), .val (.int c)] []
              refine blk (pc' := 51) (Ls' := #[.val (.int o), .val (.int c)]) (st' := [(.int (0 : Int32))]) [oIconst w.ok (dc.g 28 rfl)] rfl ?_
              exact w.retI (t := .boolean) rfl (Or.inr (Or.inl rfl)) rfl (dc.g 29 rfl) (by decide) (by decide) (fun S hS => ⟨rfl, by simp [okb, hc259, hc267, ho1, hc269, hc270, hc271]⟩)
            · show Go κ _ T 46 #[.val (.int o), .val (.int c)] []
              refine blk (pc' := 51) (Ls' := #[.val (.int o), .val (.int c)]) (st' := [(.int (1 : Int32))]) [oIconst w.ok (dc.g 26 rfl), oGoto w.ok 51 (dc.g 27 rfl)] rfl ?_
              exact w.retI (t := .boolean) rfl (Or.inr (Or.inl rfl)) rfl (dc.g 29 rfl) (by decide) (by decide) (fun S hS => ⟨rfl, by simp [okb, hc259, hc267, ho1, hc269, hc270, hc271]⟩)
        · show Go κ _ T 26 #[.val (.int o), .val (.int c)] []
          refine blk (pc' := 29) (Ls' := #[.val (.int o), .val (.int c)]) (st' := [(.int (90 : Int32)), (.int c)]) [oIloadN w.ok (dc.g 15 rfl), oBipush w.ok (dc.g 16 rfl)] rfl ?_
          refine cGt (pc' := 34) w.ok (dc.g 17 rfl) (by decide) (by decide) (fun hc272 => ?_) (fun hc272 => ?_)
          · show Go κ _ T 34 #[.val (.int o), .val (.int c)] []
            refine blk (pc' := 37) (Ls' := #[.val (.int o), .val (.int c)]) (st' := [(.int (97 : Int32)), (.int c)]) [oIloadN w.ok (dc.g 20 rfl), oBipush w.ok (dc.g 21 rfl)] rfl ?_
            refine cLt (pc' := 50) w.ok (dc.g 22 rfl) (by decide) (by decide) (fun hc273 => ?_) (fun hc273 => ?_)
            · show Go κ _ T 50 #[.val (.int o), .val (.int c)] []
              refine blk (pc' := 51) (Ls' := #[.val (.int o), .val (.int c)]) (st' := [(.int (0 : Int32))]) [oIconst w.ok (dc.g 28 rfl)] rfl ?_
              exact w.retI (t := .boolean) rfl (Or.inr (Or.inl rfl)) rfl (dc.g 29 rfl) (by decide) (by decide) (fun S hS => ⟨rfl, by simp [okb, hc259, hc267, ho1, hc269, hc272, hc273]⟩)
            · show Go κ _ T 40 #[.val (.int o), .val (.int c)] []
              refine blk (pc' := 43) (Ls' := #[.val (.int o), .val (.int c)]) (st' := [(.int (122 : Int32)), (.int c)]) [oIloadN w.ok (dc.g 23 rfl), oBipush w.ok (dc.g 24 rfl)] rfl ?_
              refine cGt (pc' := 50) w.ok (dc.g 25 rfl) (by decide) (by decide) (fun hc274 => ?_) (fun hc274 => ?_)
              · show Go κ _ T 50 #[.val (.int o), .val (.int c)] []
                refine blk (pc' := 51) (Ls' := #[.val (.int o), .val (.int c)]) (st' := [(.int (0 : Int32))]) [oIconst w.ok (dc.g 28 rfl)] rfl ?_
                exact w.retI (t := .boolean) rfl (Or.inr (Or.inl rfl)) rfl (dc.g 29 rfl) (by decide) (by decide) (fun S hS => ⟨rfl, by simp [okb, hc259, hc267, ho1, hc269, hc272, hc273, hc274]⟩)
              · show Go κ _ T 46 #[.val (.int o), .val (.int c)] []
                refine blk (pc' := 51) (Ls' := #[.val (.int o), .val (.int c)]) (st' := [(.int (1 : Int32))]) [oIconst w.ok (dc.g 26 rfl), oGoto w.ok 51 (dc.g 27 rfl)] rfl ?_
                exact w.retI (t := .boolean) rfl (Or.inr (Or.inl rfl)) rfl (dc.g 29 rfl) (by decide) (by decide) (fun S hS => ⟨rfl, by simp [okb, hc259, hc267, ho1, hc269, hc272, hc273, hc274]⟩)
          · show Go κ _ T 32 #[.val (.int o), .val (.int c)] []
            refine blk (pc' := 33) (Ls' := #[.val (.int o), .val (.int c)]) (st' := [(.int (1 : Int32))]) [oIconst w.ok (dc.g 18 rfl)] rfl ?_
            exact w.retI (t := .boolean) rfl (Or.inr (Or.inl rfl)) rfl (dc.g 19 rfl) (by decide) (by decide) (fun S hS => ⟨rfl, by simp [okb, hc259, hc267, ho1, hc269, hc272]⟩)
      · show Go κ _ T 18 #[.val (.int o), .val (.int c)] []
        refine blk (pc' := 19) (Ls' := #[.val (.int o), .val (.int c)]) (st' := [(.int (0 : Int32))]) [oIconst w.ok (dc.g 10 rfl)] rfl ?_
        exact w.retI (t := .boolean) rfl (Or.inr (Or.inl rfl)) rfl (dc.g 11 rfl) (by decide) (by decide) (fun S hS => ⟨rfl, by simp [okb, hc259, hc267, hc268]⟩)
    · show Go κ _ T 12 #[.val (.int o), .val (.int c)] []
      refine blk (pc' := 13) (Ls' := #[.val (.int o), .val (.int c)]) (st' := [(.int (1 : Int32))]) [oIconst w.ok (dc.g 6 rfl)] rfl ?_
      exact w.retI (t := .boolean) rfl (Or.inr (Or.inl rfl)) rfl (dc.g 7 rfl) (by decide) (by decide) (fun S hS => ⟨rfl, by simp [okb, hc259, hc267]⟩)
def D_cov : List (Nat × Instr × Nat) := [(0, .iload_n 0, 1), (1, .iload_n 1, 1), (2, .if_icmp .lt 8, 3), (5, .iload_n 0, 1), (6, .iload_n 2, 1), (7, .if_icmp .lt 5, 3), (10, .iconst 1, 1), (11, .ireturn, 1), (12, .iload_n 3, 1), (13, .iload 4, 2), (15, .invokestatic 7, 3), (18, .ireturn, 1)]
theorem hD_cov : ∀ q ∈ D_cov, decode method_3_code q.1 = .ok q.2 := by decide +kernel
set_option maxRecDepth 65536 in
set_option maxHeartbeats 4000000 in
theorem c_cov (l : Launch) (Z : State) (a0 : Array Value) (hw : ∀ d ∈ tables_1, d.before a0 Z = true) (hEL : EW Z a0 []) (hJS : JS Z) (hJU : JU Z) (aD aL : Addr) (hK : KD Z aD aL) {i f t : Nat} {o c : Int32} {h : Heap} (ho : o = 0 ∨ o = 1) : Ctr l Z [] (⟨"com/example/bogenwerk/bogenwerk/CharactersFillPinLaw", "covered", "(IIIZC)Z"⟩ : MethodName) method_3_code 5 (some .boolean) [] ({ frames := 1, cells := 0, slots := 0, locals := 14 } : Room) [] #[(.int (Int32.ofNat i)), (.int (Int32.ofNat f)), (.int (Int32.ofNat t)), (.int o), (.int c)] h (fun v h' S => h = h' ∧ v = some (.int (if cov f t i (okb o c) then 1 else 0))) := by
  refine enter (a0 := a0) (by first | (simp [plainName, overriddenIn]; done) | decide +kernel) hEL (Ls := #[.val (.int (Int32.ofNat i)), .val (.int (Int32.ofNat f)), .val (.int (Int32.ofNat t)), .val (.int o), .val (.int c)]) (fun m => by first | (simp [entryFrame, mkF, argsToLocals, Value.category]; done) | rfl) ?_
  intro κ vm T hby hs w Sf
  have dc := Dec.of hby hD_cov
  show Go κ (GQ κ Z [] ({ frames := 1, cells := 0, slots := 0, locals := 14 } : Room) (fun v h' S => h = h' ∧ v = some (.int (if cov f t i (okb o c) then 1 else 0)))) T 0 #[.val (.int (Int32.ofNat i)), .val (.int (Int32.ofNat f)), .val (.int (Int32.ofNat t)), .val (.int o), .val (.int c)] []
  refine blk (pc' := 2) (Ls' := #[.val (.int (Int32.ofNat i)), .val (.int (Int32.ofNat f)), .val (.int (Int32.ofNat t)), .val (.int o), .val (.int c)]) (st' := [(.int (Int32.ofNat f)), (.int (Int32.ofNat i))]) [oIloadN w.ok (dc.g 0 rfl), oIloadN w.ok (dc.g 1 rfl)] rfl ?_
  refine cLt (pc' := 10) w.ok (dc.g 2 rfl) (by decide) (by decide) (fun hc275 => ?_) (fun hc275 => ?_)
  · show Go κ _ T 10 #[.val (.int (Int32.ofNat i)), .val (.int (Int32.ofNat f)), .val (.int (Int32.ofNat t)), .val (.int o), .val (.int c)] []
    refine blk (pc' := 11) (Ls' := #[.val (.int (Int32.ofNat i)), .val (.int (Int32.ofNat f)), .val (.int (Int32.ofNat t)), .val (.int o), .val (.int c)]) (st' := [(.int (1 : Int32))]) [oIconst w.ok (dc.g 6 rfl)] rfl ?_
    exact w.retI (t := .boolean) rfl (Or.inr (Or.inl rfl)) rfl (dc.g 7 rfl) (by decide) (by decide) (fun S hS => ⟨rfl, by rw [if_pos (show cov f t i (okb o c) from Or.inl (Or.inl hc275))]⟩)
  · show Go κ _ T 5 #[.val (.int (Int32.ofNat i)), .val (.int (Int32.ofNat f)), .val (.int (Int32.ofNat t)), .val (.int o), .val (.int c)] []
    refine blk (pc' := 7) (Ls' := #[.val (.int (Int32.ofNat i)), .val (.int (Int32.ofNat f)), .val (.int (Int32.ofNat t)), .val (.int o), .val (.int c)]) (st' := [(.int (Int32.ofNat t)), (.int (Int32.ofNat i))]) [oIloadN w.ok (dc.g 3 rfl), oIloadN w.ok (dc.g 4 rfl)] rfl ?_
    refine cLt (pc' := 12) w.ok (dc.g 5 rfl) (by decide) (by decide) (fun hc276 => ?_) (fun hc276 => ?_)
    · show Go κ _ T 12 #[.val (.int (Int32.ofNat i)), .val (.int (Int32.ofNat f)), .val (.int (Int32.ofNat t)), .val (.int o), .val (.int c)] []
      refine blk (pc' := 15) (Ls' := #[.val (.int (Int32.ofNat i)), .val (.int (Int32.ofNat f)), .val (.int (Int32.ofNat t)), .val (.int o), .val (.int c)]) (st' := [(.int c), (.int o)]) [oIloadN w.ok (dc.g 8 rfl), oIload w.ok (dc.g 9 rfl)] rfl ?_
      refine w.callS (wd hw 104 rfl) (wd hw 105 rfl) (wd hw 41 rfl) (wd hw 106 rfl) (by decide) (argsL := [(.int o), (.int c)]) (Wd := 0) (Ctr.pays (len := 3) (Wd := 0) (c_ins l Z a0 hw hEL hJS hJU aD aL hK ho) w (wd hw 106 rfl) (wd hw 41 rfl) hEL (by decide) (by decide) sfNil) pd16 rfl (st := []) rfl rfl (Nat.le_of_eq rfl) (dc.g 10 rfl) (by decide) (by decide) ?_
      intro vm277 T278 h279 v280 w281 C282 Q283
      obtain ⟨eQ283, rfl⟩ := Q283
      subst eQ283
      show Go κ _ T278 18 #[.val (.int (Int32.ofNat i)), .val (.int (Int32.ofNat f)), .val (.int (Int32.ofNat t)), .val (.int o), .val (.int c)] [(.int (if okb o c = true then (1 : Int32) else 0))]
      exact w281.retI (t := .boolean) rfl (Or.inr (Or.inl rfl)) (by split <;> rfl) (dc.g 11 rfl) (by decide) (by decide) (fun S hS => ⟨rfl, by simp [cov, hc275, hc276]⟩)
    · show Go κ _ T 10 #[.val (.int (Int32.ofNat i)), .val (.int (Int32.ofNat f)), .val (.int (Int32.ofNat t)), .val (.int o), .val (.int c)] []
      refine blk (pc' := 11) (Ls' := #[.val (.int (Int32.ofNat i)), .val (.int (Int32.ofNat f)), .val (.int (Int32.ofNat t)), .val (.int o), .val (.int c)]) (st' := [(.int (1 : Int32))]) [oIconst w.ok (dc.g 6 rfl)] rfl ?_
      exact w.retI (t := .boolean) rfl (Or.inr (Or.inl rfl)) rfl (dc.g 7 rfl) (by decide) (by decide) (fun S hS => ⟨rfl, by rw [if_pos (show cov f t i (okb o c) from Or.inl (Or.inr hc276))]⟩)
def D_law : List (Nat × Instr × Nat) := [(0, .iload_n 0, 1), (1, .ldc 13, 2), (3, .iand, 1), (4, .i2c, 1), (5, .istore 5, 2), (7, .iload_n 1, 1), (8, .ldc 13, 2), (10, .iand, 1), (11, .i2c, 1), (12, .istore 6, 2), (14, .iload_n 2, 1), (15, .ldc 13, 2), (17, .iand, 1), (18, .i2c, 1), (19, .istore 7, 2), (21, .iload_n 3, 1), (22, .ldc 13, 2), (24, .iand, 1), (25, .i2c, 1), (26, .istore 8, 2), (28, .new 14, 3), (31, .dup, 1), (32, .iconst 4, 1), (33, .newarray .char, 2), (35, .dup, 1), (36, .iconst 0, 1), (37, .iload 5, 2), (39, .castore, 1), (40, .dup, 1), (41, .iconst 1, 1), (42, .iload 6, 2), (44, .castore, 1), (45, .dup, 1), (46, .iconst 2, 1), (47, .iload 7, 2), (49, .castore, 1), (50, .dup, 1), (51, .iconst 3, 1), (52, .iload 8, 2), (54, .castore, 1), (55, .invokespecial 16, 3), (58, .astore 9, 2), (60, .iload 4, 2), (62, .iconst 1, 1), (63, .iand, 1), (64, .ifCond .eq 7, 3), (67, .iconst 1, 1), (68, .goto 4, 3), (71, .iconst 0, 1), (72, .istore 10, 2), (74, .iload 4, 2), (76, .iconst 1, 1), (77, .iushr, 1), (78, .bipush 7, 2), (80, .iand, 1), (81, .iconst 5, 1), (82, .irem, 1), (83, .istore 11, 2), (85, .iload 4, 2), (87, .iconst 4, 1), (88, .iushr, 1), (89, .bipush 7, 2), (91, .iand, 1), (92, .iconst 5, 1), (93, .irem, 1), (94, .istore 12, 2), (96, .iload 10, 2), (98, .ifCond .eq 9, 3), (101, .getstatic 19, 3), (104, .goto 6, 3), (107, .getstatic 25, 3), (110, .astore 13, 2), (112, .aload 13, 2), (114, .aload 9, 2), (116, .iload 11, 2), (118, .iload 12, 2), (120, .invokevirtual 28, 3), (123, .istore 14, 2), (125, .iconst 0, 1), (126, .iload 11, 2), (128, .iload 12, 2), (130, .iload 10, 2), (132, .iload 5, 2), (134, .invokestatic 32, 3), (137, .ifCond .eq 52, 3), (140, .iconst 1, 1), (141, .iload 11, 2), (143, .iload 12, 2), (145, .iload 10, 2), (147, .iload 6, 2), (149, .invokestatic 32, 3), (152, .ifCond .eq 37, 3), (155, .iconst 2, 1), (156, .iload 11, 2), (158, .iload 12, 2), (160, .iload 10, 2), (162, .iload 7, 2), (164, .invokestatic 32, 3), (167, .ifCond .eq 22, 3), (170, .iconst 3, 1), (171, .iload 11, 2), (173, .iload 12, 2), (175, .iload 10, 2), (177, .iload 8, 2), (179, .invokestatic 32, 3), (182, .ifCond .eq 7, 3), (185, .iconst 1, 1), (186, .goto 4, 3), (189, .iconst 0, 1), (190, .istore 15, 2), (192, .iload 14, 2), (194, .iload 15, 2), (196, .if_icmp .ne 7, 3), (199, .iconst 1, 1), (200, .goto 4, 3), (203, .iconst 0, 1), (204, .ireturn, 1)]
theorem hD_law : ∀ q ∈ D_law, decode code q.1 = .ok q.2 := by decide +kernel
set_option maxRecDepth 65536 in
set_option maxHeartbeats 4000000 in
theorem c_law (l : Launch) (Z : State) (a0 : Array Value) (hw : ∀ d ∈ tables_1, d.before a0 Z = true) (hEL : EW Z a0 []) (hJS : JS Z) (hJU : JU Z) (aD aL : Addr) (hK : KD Z aD aL) {p0 p1 p2 p3 p4 : Int32} (h : Heap) (oz : Ext Z.heap h) (ws : List Jvm.Cond) : Ctr l Z [] x code maxLocals ret ws room_1 [] #[(.int p0), (.int p1), (.int p2), (.int p3), (.int p4)] h (fun v h' S => v = some (.int 1)) := by
  refine enter (a0 := a0) (by first | (simp [plainName, overriddenIn]; done) | decide +kernel) hEL (Ls := #[.val (.int p0), .val (.int p1), .val (.int p2), .val (.int p3), .val (.int p4), .unset, .unset, .unset, .unset, .unset, .unset, .unset, .unset, .unset, .unset, .unset]) (fun m => by first | (simp [entryFrame, mkF, argsToLocals, Value.category, maxLocals]; done) | rfl) ?_
  intro κ vm T hby hs w Sf
  have dc := Dec.of hby hD_law
  show Go κ (GQ κ Z [] room_1 (fun v h' S => v = some (.int 1))) T 0 #[.val (.int p0), .val (.int p1), .val (.int p2), .val (.int p3), .val (.int p4), .unset, .unset, .unset, .unset, .unset, .unset, .unset, .unset, .unset, .unset, .unset] []
  have ozs : Ext Z.heap κ.s.heap := by rw [hs]; exact oz
  refine blk (pc' := 1) (Ls' := #[.val (.int p0), .val (.int p1), .val (.int p2), .val (.int p3), .val (.int p4), .unset, .unset, .unset, .unset, .unset, .unset, .unset, .unset, .unset, .unset, .unset]) (st' := [(.int p0)]) [oIloadN w.ok (dc.g 0 rfl)] rfl ?_
  refine w.ldcI (wd hw 0 rfl) (dc.g 1 rfl) ?_
  show Go κ _ T 3 #[.val (.int p0), .val (.int p1), .val (.int p2), .val (.int p3), .val (.int p4), .unset, .unset, .unset, .unset, .unset, .unset, .unset, .unset, .unset, .unset, .unset] [(.int (65535 : Int32)), (.int p0)]
  refine blk (pc' := 7) (Ls' := #[.val (.int p0), .val (.int p1), .val (.int p2), .val (.int p3), .val (.int p4), .val (.int (((p0 &&& (65535 : Int32))).toUInt32.toUInt16.toUInt32.toInt32)), .unset, .unset, .unset, .unset, .unset, .unset, .unset, .unset, .unset, .unset]) (st' := []) [oIand w.ok (dc.g 2 rfl), oI2c w.ok (dc.g 3 rfl), oIstore w.ok (dc.g 4 rfl)] rfl ?_
  have bc0 := i2c_bounds ((p0 &&& (65535 : Int32)))
  generalize (((p0 &&& (65535 : Int32))).toUInt32.toUInt16.toUInt32.toInt32) = c0 at bc0 ⊢
  show Go κ _ T 7 #[.val (.int p0), .val (.int p1), .val (.int p2), .val (.int p3), .val (.int p4), .val (.int c0), .unset, .unset, .unset, .unset, .unset, .unset, .unset, .unset, .unset, .unset] []
  refine blk (pc' := 8) (Ls' := #[.val (.int p0), .val (.int p1), .val (.int p2), .val (.int p3), .val (.int p4), .val (.int c0), .unset, .unset, .unset, .unset, .unset, .unset, .unset, .unset, .unset, .unset]) (st' := [(.int p1)]) [oIloadN w.ok (dc.g 5 rfl)] rfl ?_
  refine w.ldcI (wd hw 0 rfl) (dc.g 6 rfl) ?_
  show Go κ _ T 10 #[.val (.int p0), .val (.int p1), .val (.int p2), .val (.int p3), .val (.int p4), .val (.int c0), .unset, .unset, .unset, .unset, .unset, .unset, .unset, .unset, .unset, .unset] [(.int (65535 : Int32)), (.int p1)]
  refine blk (pc' := 14) (Ls' := #[.val (.int p0), .val (.int p1), .val (.int p2), .val (.int p3), .val (.int p4), .val (.int c0), .val (.int (((p1 &&& (65535 : Int32))).toUInt32.toUInt16.toUInt32.toInt32)), .unset, .unset, .unset, .unset, .unset, .unset, .unset, .unset, .unset]) (st' := []) [oIand w.ok (dc.g 7 rfl), oI2c w.ok (dc.g 8 rfl), oIstore w.ok (dc.g 9 rfl)] rfl ?_
  have bc1 := i2c_bounds ((p1 &&& (65535 : Int32)))
  generalize (((p1 &&& (65535 : Int32))).toUInt32.toUInt16.toUInt32.toInt32) = c1 at bc1 ⊢
  show Go κ _ T 14 #[.val (.int p0), .val (.int p1), .val (.int p2), .val (.int p3), .val (.int p4), .val (.int c0), .val (.int c1), .unset, .unset, .unset, .unset, .unset, .unset, .unset, .unset, .unset] []
  refine blk (pc' := 15) (Ls' := #[.val (.int p0), .val (.int p1), .val (.int p2), .val (.int p3), .val (.int p4), .val (.int c0), .val (.int c1), .unset, .unset, .unset, .unset, .unset, .unset, .unset, .unset, .unset]) (st' := [(.int p2)]) [oIloadN w.ok (dc.g 10 rfl)] rfl ?_
  refine w.ldcI (wd hw 0 rfl) (dc.g 11 rfl) ?_
  show Go κ _ T 17 #[.val (.int p0), .val (.int p1), .val (.int p2), .val (.int p3), .val (.int p4), .val (.int c0), .val (.int c1), .unset, .unset, .unset, .unset, .unset, .unset, .unset, .unset, .unset] [(.int (65535 : Int32)), (.int p2)]
  refine blk (pc' := 21) (Ls' := #[.val (.int p0), .val (.int p1), .val (.int p2), .val (.int p3), .val (.int p4), .val (.int c0), .val (.int c1), .val (.int (((p2 &&& (65535 : Int32))).toUInt32.toUInt16.toUInt32.toInt32)), .unset, .unset, .unset, .unset, .unset, .unset, .unset, .unset]) (st' := []) [oIand w.ok (dc.g 12 rfl), oI2c w.ok (dc.g 13 rfl), oIstore w.ok (dc.g 14 rfl)] rfl ?_
  have bc2 := i2c_bounds ((p2 &&& (65535 : Int32)))
  generalize (((p2 &&& (65535 : Int32))).toUInt32.toUInt16.toUInt32.toInt32) = c2 at bc2 ⊢
  show Go κ _ T 21 #[.val (.int p0), .val (.int p1), .val (.int p2), .val (.int p3), .val (.int p4), .val (.int c0), .val (.int c1), .val (.int c2), .unset, .unset, .unset, .unset, .unset, .unset, .unset, .unset] []
  refine blk (pc' := 22) (Ls' := #[.val (.int p0), .val (.int p1), .val (.int p2), .val (.int p3), .val (.int p4), .val (.int c0), .val (.int c1), .val (.int c2), .unset, .unset, .unset, .unset, .unset, .unset, .unset, .unset]) (st' := [(.int p3)]) [oIloadN w.ok (dc.g 15 rfl)] rfl ?_
  refine w.ldcI (wd hw 0 rfl) (dc.g 16 rfl) ?_
  show Go κ _ T 24 #[.val (.int p0), .val (.int p1), .val (.int p2), .val (.int p3), .val (.int p4), .val (.int c0), .val (.int c1), .val (.int c2), .unset, .unset, .unset, .unset, .unset, .unset, .unset, .unset] [(.int (65535 : Int32)), (.int p3)]
  refine blk (pc' := 28) (Ls' := #[.val (.int p0), .val (.int p1), .val (.int p2), .val (.int p3), .val (.int p4), .val (.int c0), .val (.int c1), .val (.int c2), .val (.int (((p3 &&& (65535 : Int32))).toUInt32.toUInt16.toUInt32.toInt32)), .unset, .unset, .unset, .unset, .unset, .unset, .unset]) (st' := []) [oIand w.ok (dc.g 17 rfl), oI2c w.ok (dc.g 18 rfl), oIstore w.ok (dc.g 19 rfl)] rfl ?_
  have bc3 := i2c_bounds ((p3 &&& (65535 : Int32)))
  generalize (((p3 &&& (65535 : Int32))).toUInt32.toUInt16.toUInt32.toInt32) = c3 at bc3 ⊢
  show Go κ _ T 28 #[.val (.int p0), .val (.int p1), .val (.int p2), .val (.int p3), .val (.int p4), .val (.int c0), .val (.int c1), .val (.int c2), .val (.int c3), .unset, .unset, .unset, .unset, .unset, .unset, .unset] []
  refine w.new (wd hw 1 rfl) (wd hw 2 rfl) (wd hw 3 rfl) (dc.g 20 rfl) (by decide) (by decide) ?_
  intro T284 h286 x287 w285 g288 E289 X290 D291 S292
  show Go κ _ T284 31 #[.val (.int p0), .val (.int p1), .val (.int p2), .val (.int p3), .val (.int p4), .val (.int c0), .val (.int c1), .val (.int c2), .val (.int c3), .unset, .unset, .unset, .unset, .unset, .unset, .unset] [(.ref x287)]
  refine blk (pc' := 33) (Ls' := #[.val (.int p0), .val (.int p1), .val (.int p2), .val (.int p3), .val (.int p4), .val (.int c0), .val (.int c1), .val (.int c2), .val (.int c3), .unset, .unset, .unset, .unset, .unset, .unset, .unset]) (st' := [(.int (4 : Int32)), (.ref x287), (.ref x287)]) [oDup w285.ok (dc.g 21 rfl), oIconst w285.ok (dc.g 22 rfl)] rfl ?_
  refine w285.newarr (aty := .char) (wd hw 4 rfl) (dc.g 23 rfl) (c := 4) (by decide) (by decide) (cap := 4) (by first | decide | omega) (by first | decide | omega) (by decide) (by decide) rfl rfl ?_
  intro T293 h295 x296 w294 g297 E298 F299 S300
  show Go κ _ T293 35 #[.val (.int p0), .val (.int p1), .val (.int p2), .val (.int p3), .val (.int p4), .val (.int c0), .val (.int c1), .val (.int c2), .val (.int c3), .unset, .unset, .unset, .unset, .unset, .unset, .unset] [(.ref x296), (.ref x287), (.ref x287)]
  have SS301 := Safe.ext E298 w285.chv S292
  have XX302 := X290.ext E298
  have FV303 := (D291 (Or.inr (wd hw 30 rfl)) (ty := .array .byte) (by decide)).ext E298
  have FC304 := (D291 (Or.inr (wd hw 28 rfl)) (ty := .byte) (by decide)).ext E298
  have KK305 := ((Keep.refl h []).ext E289).ext E298
  have hx307 : h.size ≤ x287 := by rw [g288]; exact Nat.le_refl _
  have hg308 : h.size ≤ x296 := by rw [g297]; exact E289.1
  refine blk (pc' := 39) (Ls' := #[.val (.int p0), .val (.int p1), .val (.int p2), .val (.int p3), .val (.int p4), .val (.int c0), .val (.int c1), .val (.int c2), .val (.int c3), .unset, .unset, .unset, .unset, .unset, .unset, .unset]) (st' := [(.int c0), (.int (0 : Int32)), (.ref x296), (.ref x296), (.ref x287), (.ref x287)]) [oDup w294.ok (dc.g 24 rfl), oIconst w294.ok (dc.g 25 rfl), oIload w294.ok (dc.g 26 rfl)] rfl ?_
  refine w294.cst F299 (i := 0) rfl (by simp) (narCh (bc0).1 (bc0).2) (fitsCh (bc0).1 (bc0).2) (Nat.le_trans oz.1 hg308) (dc.g 27 rfl) ?_
  intro T309 h311 w310 W312 F313
  show Go κ _ T309 40 #[.val (.int p0), .val (.int p1), .val (.int p2), .val (.int p3), .val (.int p4), .val (.int c0), .val (.int c1), .val (.int c2), .val (.int c3), .unset, .unset, .unset, .unset, .unset, .unset, .unset] [(.ref x296), (.ref x287), (.ref x287)]
  obtain ⟨slW312, vvW312, WW312⟩ := W312
  have ne319 : x287 ≠ x296 := Ne.symm (F299.ne_exa XX302 (wd hw 2 rfl))
  have SS314 := Safe.wr WW312 (F299.safe w294.alike (by decide)) w294.chv SS301
  have XX315 := XX302.wr WW312
  have FV316 := FV303.other WW312 (Or.inl ne319)
  have FC317 := FC304.other WW312 (Or.inl ne319)
  have KK318 := KK305.wr WW312 (Or.inr hg308)
  refine blk (pc' := 44) (Ls' := #[.val (.int p0), .val (.int p1), .val (.int p2), .val (.int p3), .val (.int p4), .val (.int c0), .val (.int c1), .val (.int c2), .val (.int c3), .unset, .unset, .unset, .unset, .unset, .unset, .unset]) (st' := [(.int c1), (.int (1 : Int32)), (.ref x296), (.ref x296), (.ref x287), (.ref x287)]) [oDup w310.ok (dc.g 28 rfl), oIconst w310.ok (dc.g 29 rfl), oIload w310.ok (dc.g 30 rfl)] rfl ?_
  refine w310.cst F313 (i := 1) rfl (by simp) (narCh (bc1).1 (bc1).2) (fitsCh (bc1).1 (bc1).2) (Nat.le_trans oz.1 hg308) (dc.g 31 rfl) ?_
  intro T320 h322 w321 W323 F324
  show Go κ _ T320 45 #[.val (.int p0), .val (.int p1), .val (.int p2), .val (.int p3), .val (.int p4), .val (.int c0), .val (.int c1), .val (.int c2), .val (.int c3), .unset, .unset, .unset, .unset, .unset, .unset, .unset] [(.ref x296), (.ref x287), (.ref x287)]
  obtain ⟨slW323, vvW323, WW323⟩ := W323
  have ne330 : x287 ≠ x296 := Ne.symm (F313.ne_exa XX315 (wd hw 2 rfl))
  have SS325 := Safe.wr WW323 (F313.safe w310.alike (by decide)) w310.chv SS314
  have XX326 := XX315.wr WW323
  have FV327 := FV316.other WW323 (Or.inl ne330)
  have FC328 := FC317.other WW323 (Or.inl ne330)
  have KK329 := KK318.wr WW323 (Or.inr hg308)
  refine blk (pc' := 49) (Ls' := #[.val (.int p0), .val (.int p1), .val (.int p2), .val (.int p3), .val (.int p4), .val (.int c0), .val (.int c1), .val (.int c2), .val (.int c3), .unset, .unset, .unset, .unset, .unset, .unset, .unset]) (st' := [(.int c2), (.int (2 : Int32)), (.ref x296), (.ref x296), (.ref x287), (.ref x287)]) [oDup w321.ok (dc.g 32 rfl), oIconst w321.ok (dc.g 33 rfl), oIload w321.ok (dc.g 34 rfl)] rfl ?_
  refine w321.cst F324 (i := 2) rfl (by simp) (narCh (bc2).1 (bc2).2) (fitsCh (bc2).1 (bc2).2) (Nat.le_trans oz.1 hg308) (dc.g 35 rfl) ?_
  intro T331 h333 w332 W334 F335
  show Go κ _ T331 50 #[.val (.int p0), .val (.int p1), .val (.int p2), .val (.int p3), .val (.int p4), .val (.int c0), .val (.int c1), .val (.int c2), .val (.int c3), .unset, .unset, .unset, .unset, .unset, .unset, .unset] [(.ref x296), (.ref x287), (.ref x287)]
  obtain ⟨slW334, vvW334, WW334⟩ := W334
  have ne341 : x287 ≠ x296 := Ne.symm (F324.ne_exa XX326 (wd hw 2 rfl))
  have SS336 := Safe.wr WW334 (F324.safe w321.alike (by decide)) w321.chv SS325
  have XX337 := XX326.wr WW334
  have FV338 := FV327.other WW334 (Or.inl ne341)
  have FC339 := FC328.other WW334 (Or.inl ne341)
  have KK340 := KK329.wr WW334 (Or.inr hg308)
  refine blk (pc' := 54) (Ls' := #[.val (.int p0), .val (.int p1), .val (.int p2), .val (.int p3), .val (.int p4), .val (.int c0), .val (.int c1), .val (.int c2), .val (.int c3), .unset, .unset, .unset, .unset, .unset, .unset, .unset]) (st' := [(.int c3), (.int (3 : Int32)), (.ref x296), (.ref x296), (.ref x287), (.ref x287)]) [oDup w332.ok (dc.g 36 rfl), oIconst w332.ok (dc.g 37 rfl), oIload w332.ok (dc.g 38 rfl)] rfl ?_
  refine w332.cst F335 (i := 3) rfl (by simp) (narCh (bc3).1 (bc3).2) (fitsCh (bc3).1 (bc3).2) (Nat.le_trans oz.1 hg308) (dc.g 39 rfl) ?_
  intro T342 h344 w343 W345 F346
  show Go κ _ T342 55 #[.val (.int p0), .val (.int p1), .val (.int p2), .val (.int p3), .val (.int p4), .val (.int c0), .val (.int c1), .val (.int c2), .val (.int c3), .unset, .unset, .unset, .unset, .unset, .unset, .unset] [(.ref x296), (.ref x287), (.ref x287)]
  obtain ⟨slW345, vvW345, WW345⟩ := W345
  have ne352 : x287 ≠ x296 := Ne.symm (F335.ne_exa XX337 (wd hw 2 rfl))
  have SS347 := Safe.wr WW345 (F335.safe w332.alike (by decide)) w332.chv SS336
  have XX348 := XX337.wr WW345
  have FV349 := FV338.other WW345 (Or.inl ne352)
  have FC350 := FC339.other WW345 (Or.inl ne352)
  have KK351 := KK340.wr WW345 (Or.inr hg308)
  refine w343.callI rfl (wd hw 5 rfl) (wd hw 6 rfl) (wd hw 7 rfl) (by decide) (a := x287) (argsL := [(.ref x296)]) (Wd := 1) (Ctr.pays (len := 3) (Wd := 1) (c_si1 l Z a0 hw hEL hJS hJU aD aL hK (cs := ([c0, c1, c2, c3] : List Int32)) (w343.old ozs) XX348 FV349 FC350 (Nat.le_trans oz.1 hx307) F346 (by simp) (by simp)) w343 (wd hw 7 rfl) (wd hw 3 rfl) hEL (by decide) (by decide) (sfOne XX348.lt SS347)) pd17 rfl (st := [(.ref x287)]) rfl rfl (Nat.le_of_eq rfl) (dc.g 40 rfl) (by decide) (by decide) ?_
  intro vm353 T354 h355 v356 w357 C358 Q359
  obtain ⟨rfl, K360, FS361⟩ := Q359
  show Go κ _ T354 58 #[.val (.int p0), .val (.int p1), .val (.int p2), .val (.int p3), .val (.int p4), .val (.int c0), .val (.int c1), .val (.int c2), .val (.int c3), .unset, .unset, .unset, .unset, .unset, .unset, .unset] [(.ref x287)]
  have K362 := KK351.trans K360 (allS (Or.inr hx307) all0)
  refine blk (pc' := 60) (Ls' := #[.val (.int p0), .val (.int p1), .val (.int p2), .val (.int p3), .val (.int p4), .val (.int c0), .val (.int c1), .val (.int c2), .val (.int c3), .val (.ref x287), .unset, .unset, .unset, .unset, .unset, .unset]) (st' := []) [oAstore w357.ok (dc.g 41 rfl)] rfl ?_
  suffices k74 : ∀ lt : Int32, (lt = 0 ∨ lt = 1) → Go κ (GQ κ Z [] room_1 (fun v h' S => v = some (.int 1))) T354 74 #[.val (.int p0), .val (.int p1), .val (.int p2), .val (.int p3), .val (.int p4), .val (.int c0), .val (.int c1), .val (.int c2), .val (.int c3), .val (.ref x287), .val (.int lt), .unset, .unset, .unset, .unset, .unset] [] by
    refine blk (pc' := 64) (Ls' := #[.val (.int p0), .val (.int p1), .val (.int p2), .val (.int p3), .val (.int p4), .val (.int c0), .val (.int c1), .val (.int c2), .val (.int c3), .val (.ref x287), .unset, .unset, .unset, .unset, .unset, .unset]) (st' := [(.int (p4 &&& (1 : Int32)))]) [oIload w357.ok (dc.g 42 rfl), oIconst w357.ok (dc.g 43 rfl), oIand w357.ok (dc.g 44 rfl)] rfl ?_
    refine zEq (pc' := 71) w357.ok (dc.g 45 rfl) (by decide) (by decide) (fun hc363 => ?_) (fun hc363 => ?_)
    · show Go κ _ T354 71 #[.val (.int p0), .val (.int p1), .val (.int p2), .val (.int p3), .val (.int p4), .val (.int c0), .val (.int c1), .val (.int c2), .val (.int c3), .val (.ref x287), .unset, .unset, .unset, .unset, .unset, .unset] []
      refine blk (pc' := 74) (Ls' := #[.val (.int p0), .val (.int p1), .val (.int p2), .val (.int p3), .val (.int p4), .val (.int c0), .val (.int c1), .val (.int c2), .val (.int c3), .val (.ref x287), .val (.int (0 : Int32)), .unset, .unset, .unset, .unset, .unset]) (st' := []) [oIconst w357.ok (dc.g 48 rfl), oIstore w357.ok (dc.g 49 rfl)] rfl ?_
      exact k74 _ (Or.inl rfl)
    · show Go κ _ T354 67 #[.val (.int p0), .val (.int p1), .val (.int p2), .val (.int p3), .val (.int p4), .val (.int c0), .val (.int c1), .val (.int c2), .val (.int c3), .val (.ref x287), .unset, .unset, .unset, .unset, .unset, .unset] []
      refine blk (pc' := 74) (Ls' := #[.val (.int p0), .val (.int p1), .val (.int p2), .val (.int p3), .val (.int p4), .val (.int c0), .val (.int c1), .val (.int c2), .val (.int c3), .val (.ref x287), .val (.int (1 : Int32)), .unset, .unset, .unset, .unset, .unset]) (st' := []) [oIconst w357.ok (dc.g 46 rfl), oGoto w357.ok 72 (dc.g 47 rfl), oIstore w357.ok (dc.g 49 rfl)] rfl ?_
      exact k74 _ (Or.inr rfl)
  intro lt hlt
  show Go κ _ T354 74 #[.val (.int p0), .val (.int p1), .val (.int p2), .val (.int p3), .val (.int p4), .val (.int c0), .val (.int c1), .val (.int c2), .val (.int c3), .val (.ref x287), .val (.int lt), .unset, .unset, .unset, .unset, .unset] []
  refine blk (pc' := 85) (Ls' := #[.val (.int p0), .val (.int p1), .val (.int p2), .val (.int p3), .val (.int p4), .val (.int c0), .val (.int c1), .val (.int c2), .val (.int c3), .val (.ref x287), .val (.int lt), .val (.int ((((p4).toUInt32 >>> ((1 : Int32) &&& 31).toUInt32).toInt32 &&& (7 : Int32)) % (5 : Int32))), .unset, .unset, .unset, .unset]) (st' := []) [oIload w357.ok (dc.g 50 rfl), oIconst w357.ok (dc.g 51 rfl), oIushr w357.ok (dc.g 52 rfl), oBipush w357.ok (dc.g 53 rfl), oIand w357.ok (dc.g 54 rfl), oIconst w357.ok (dc.g 55 rfl), oIrem w357.ok (dc.g 56 rfl), oIstore w357.ok (dc.g 57 rfl)] rfl ?_
  obtain ⟨ff, hff, eff⟩ := remNat ((p4).toUInt32 >>> ((1 : Int32) &&& 31).toUInt32).toInt32 (7 : Int32) (5 : Int32) 5 (by decide) (by decide) (by decide)
  rw [eff]
  show Go κ _ T354 85 #[.val (.int p0), .val (.int p1), .val (.int p2), .val (.int p3), .val (.int p4), .val (.int c0), .val (.int c1), .val (.int c2), .val (.int c3), .val (.ref x287), .val (.int lt), .val (.int (Int32.ofNat ff)), .unset, .unset, .unset, .unset] []
  refine blk (pc' := 96) (Ls' := #[.val (.int p0), .val (.int p1), .val (.int p2), .val (.int p3), .val (.int p4), .val (.int c0), .val (.int c1), .val (.int c2), .val (.int c3), .val (.ref x287), .val (.int lt), .val (.int (Int32.ofNat ff)), .val (.int ((((p4).toUInt32 >>> ((4 : Int32) &&& 31).toUInt32).toInt32 &&& (7 : Int32)) % (5 : Int32))), .unset, .unset, .unset]) (st' := []) [oIload w357.ok (dc.g 58 rfl), oIconst w357.ok (dc.g 59 rfl), oIushr w357.ok (dc.g 60 rfl), oBipush w357.ok (dc.g 61 rfl), oIand w357.ok (dc.g 62 rfl), oIconst w357.ok (dc.g 63 rfl), oIrem w357.ok (dc.g 64 rfl), oIstore w357.ok (dc.g 65 rfl)] rfl ?_
  obtain ⟨tt, htt, ett⟩ := remNat ((p4).toUInt32 >>> ((4 : Int32) &&& 31).toUInt32).toInt32 (7 : Int32) (5 : Int32) 5 (by decide) (by decide) (by decide)
  rw [ett]
  show Go κ _ T354 96 #[.val (.int p0), .val (.int p1), .val (.int p2), .val (.int p3), .val (.int p4), .val (.int c0), .val (.int c1), .val (.int c2), .val (.int c3), .val (.ref x287), .val (.int lt), .val (.int (Int32.ofNat ff)), .val (.int (Int32.ofNat tt)), .unset, .unset, .unset] []
  suffices k110 : ∀ (T1 : State) (ak : Addr), W κ l room_1 Z [] "com/example/bogenwerk/bogenwerk/CharactersFillPinLaw" "law" maxLocals ret vm353 T1 h355 4 20 → Exa Z h355 ak "com/example/bogenwerk/bogenwerk/HeaderChecks$Characters" → Fld Z h355 ak "java/lang/Enum" "ordinal" "I" (.int lt) → Go κ (GQ κ Z [] room_1 (fun v h' S => v = some (.int 1))) T1 110 #[.val (.int p0), .val (.int p1), .val (.int p2), .val (.int p3), .val (.int p4), .val (.int c0), .val (.int c1), .val (.int c2), .val (.int c3), .val (.ref x287), .val (.int lt), .val (.int (Int32.ofNat ff)), .val (.int (Int32.ofNat tt)), .unset, .unset, .unset] [(.ref ak)] by
    refine blk (pc' := 98) (Ls' := #[.val (.int p0), .val (.int p1), .val (.int p2), .val (.int p3), .val (.int p4), .val (.int c0), .val (.int c1), .val (.int c2), .val (.int c3), .val (.ref x287), .val (.int lt), .val (.int (Int32.ofNat ff)), .val (.int (Int32.ofNat tt)), .unset, .unset, .unset]) (st' := [(.int lt)]) [oIload w357.ok (dc.g 66 rfl)] rfl ?_
    refine zEq (pc' := 107) w357.ok (dc.g 67 rfl) (by decide) (by decide) (fun hc364 => ?_) (fun hc364 => ?_)
    · show Go κ _ T354 107 #[.val (.int p0), .val (.int p1), .val (.int p2), .val (.int p3), .val (.int p4), .val (.int c0), .val (.int c1), .val (.int c2), .val (.int c3), .val (.ref x287), .val (.int lt), .val (.int (Int32.ofNat ff)), .val (.int (Int32.ofNat tt)), .unset, .unset, .unset] []
      refine w357.gets (wd hw 31 rfl) (hK.1.1.ext (w357.old ozs)) (dc.g 70 rfl) ?_
      intro T365 w366
      show Go κ _ T365 110 #[.val (.int p0), .val (.int p1), .val (.int p2), .val (.int p3), .val (.int p4), .val (.int c0), .val (.int c1), .val (.int c2), .val (.int c3), .val (.ref x287), .val (.int lt), .val (.int (Int32.ofNat ff)), .val (.int (Int32.ofNat tt)), .unset, .unset, .unset] [(.ref aD)]
      exact k110 _ _ (w366.mono (by decide) (by decide)) (hK.1.2.1.ext (w366.old ozs)) (by rw [hc364]; exact hK.1.2.2.ext (w366.old ozs))
    · show Go κ _ T354 101 #[.val (.int p0), .val (.int p1), .val (.int p2), .val (.int p3), .val (.int p4), .val (.int c0), .val (.int c1), .val (.int c2), .val (.int c3), .val (.ref x287), .val (.int lt), .val (.int (Int32.ofNat ff)), .val (.int (Int32.ofNat tt)), .unset, .unset, .unset] []
      refine w357.gets (wd hw 43 rfl) (hK.2.1.ext (w357.old ozs)) (dc.g 68 rfl) ?_
      intro T367 w368
      show Go κ _ T367 104 #[.val (.int p0), .val (.int p1), .val (.int p2), .val (.int p3), .val (.int p4), .val (.int c0), .val (.int c1), .val (.int c2), .val (.int c3), .val (.ref x287), .val (.int lt), .val (.int (Int32.ofNat ff)), .val (.int (Int32.ofNat tt)), .unset, .unset, .unset] [(.ref aL)]
      refine blk (pc' := 110) (Ls' := #[.val (.int p0), .val (.int p1), .val (.int p2), .val (.int p3), .val (.int p4), .val (.int c0), .val (.int c1), .val (.int c2), .val (.int c3), .val (.ref x287), .val (.int lt), .val (.int (Int32.ofNat ff)), .val (.int (Int32.ofNat tt)), .unset, .unset, .unset]) (st' := [(.ref aL)]) [oGoto w368.ok 110 (dc.g 69 rfl)] rfl ?_
      exact k110 _ _ (w368.mono (by decide) (by decide)) (hK.2.2.1.ext (w368.old ozs)) (by rw [hlt.resolve_left hc364]; exact hK.2.2.2.ext (w368.old ozs))
  intro T1 ak w1 XA FA
  show Go κ _ T1 110 #[.val (.int p0), .val (.int p1), .val (.int p2), .val (.int p3), .val (.int p4), .val (.int c0), .val (.int c1), .val (.int c2), .val (.int c3), .val (.ref x287), .val (.int lt), .val (.int (Int32.ofNat ff)), .val (.int (Int32.ofNat tt)), .unset, .unset, .unset] [(.ref ak)]
  refine blk (pc' := 120) (Ls' := #[.val (.int p0), .val (.int p1), .val (.int p2), .val (.int p3), .val (.int p4), .val (.int c0), .val (.int c1), .val (.int c2), .val (.int c3), .val (.ref x287), .val (.int lt), .val (.int (Int32.ofNat ff)), .val (.int (Int32.ofNat tt)), .val (.ref ak), .unset, .unset]) (st' := [(.int (Int32.ofNat tt)), (.int (Int32.ofNat ff)), (.ref x287), (.ref ak)]) [oAstore w1.ok (dc.g 71 rfl), oAload w1.ok (dc.g 72 rfl), oAload w1.ok (dc.g 73 rfl), oIload w1.ok (dc.g 74 rfl), oIload w1.ok (dc.g 75 rfl)] rfl ?_
  refine w1.callV (wd hw 34 rfl) (wd hw 35 rfl) (notFace (wd hw 37 rfl)) (wd hw 37 rfl) (wd hw 36 rfl) (by decide) (a := ak) XA (argsL := [(.ref x287), (.int (Int32.ofNat ff)), (.int (Int32.ofNat tt))]) (Wd := 0) (Ctr.pays (len := 3) (Wd := 0) (c_fill l Z a0 hw hEL hJS hJU aD aL hK (f := ff) (t := tt) (cs := ([c0, c1, c2, c3] : List Int32)) (w1.old ozs) XA FA hlt FS361 (by simp; omega) (by omega)) w1 (wd hw 38 rfl) (wd hw 32 rfl) hEL (by decide) (by decide) sfNil) pd18 rfl (st := []) rfl rfl (Nat.le_of_eq rfl) (dc.g 76 rfl) (by decide) (by decide) ?_
  intro vm369 T370 h371 v372 w373 C374 Q375
  obtain ⟨eQ375, rfl⟩ := Q375
  subst eQ375
  show Go κ _ T370 123 #[.val (.int p0), .val (.int p1), .val (.int p2), .val (.int p3), .val (.int p4), .val (.int c0), .val (.int c1), .val (.int c2), .val (.int c3), .val (.ref x287), .val (.int lt), .val (.int (Int32.ofNat ff)), .val (.int (Int32.ofNat tt)), .val (.ref ak), .unset, .unset] [(.int (if ((([c0, c1, c2, c3] : List Int32).take tt).drop ff).all (okb lt) = true then (1 : Int32) else 0))]
  refine blk (pc' := 125) (Ls' := #[.val (.int p0), .val (.int p1), .val (.int p2), .val (.int p3), .val (.int p4), .val (.int c0), .val (.int c1), .val (.int c2), .val (.int c3), .val (.ref x287), .val (.int lt), .val (.int (Int32.ofNat ff)), .val (.int (Int32.ofNat tt)), .val (.ref ak), .val (.int (if ((([c0, c1, c2, c3] : List Int32).take tt).drop ff).all (okb lt) = true then (1 : Int32) else 0)), .unset]) (st' := []) [oIstore w373.ok (dc.g 77 rfl)] rfl ?_
  suffices k190 : ∀ (r15 : Int32) (vm376 : Vm) (T377 : State), r15 = (if ((([c0, c1, c2, c3] : List Int32).take tt).drop ff).all (okb lt) = true then 1 else 0) → W κ l room_1 Z [] "com/example/bogenwerk/bogenwerk/CharactersFillPinLaw" "law" maxLocals ret vm376 T377 h355 4 20 → Go κ (GQ κ Z [] room_1 (fun v h' S => v = some (.int 1))) T377 190 #[.val (.int p0), .val (.int p1), .val (.int p2), .val (.int p3), .val (.int p4), .val (.int c0), .val (.int c1), .val (.int c2), .val (.int c3), .val (.ref x287), .val (.int lt), .val (.int (Int32.ofNat ff)), .val (.int (Int32.ofNat tt)), .val (.ref ak), .val (.int (if ((([c0, c1, c2, c3] : List Int32).take tt).drop ff).all (okb lt) = true then (1 : Int32) else 0)), .unset] [(.int r15)] by
    refine blk (pc' := 134) (Ls' := #[.val (.int p0), .val (.int p1), .val (.int p2), .val (.int p3), .val (.int p4), .val (.int c0), .val (.int c1), .val (.int c2), .val (.int c3), .val (.ref x287), .val (.int lt), .val (.int (Int32.ofNat ff)), .val (.int (Int32.ofNat tt)), .val (.ref ak), .val (.int (if ((([c0, c1, c2, c3] : List Int32).take tt).drop ff).all (okb lt) = true then (1 : Int32) else 0)), .unset]) (st' := [(.int c0), (.int lt), (.int (Int32.ofNat tt)), (.int (Int32.ofNat ff)), (.int (0 : Int32))]) [oIconst w373.ok (dc.g 78 rfl), oIload w373.ok (dc.g 79 rfl), oIload w373.ok (dc.g 80 rfl), oIload w373.ok (dc.g 81 rfl), oIload w373.ok (dc.g 82 rfl)] rfl ?_
    show Go κ _ T370 134 #[.val (.int p0), .val (.int p1), .val (.int p2), .val (.int p3), .val (.int p4), .val (.int c0), .val (.int c1), .val (.int c2), .val (.int c3), .val (.ref x287), .val (.int lt), .val (.int (Int32.ofNat ff)), .val (.int (Int32.ofNat tt)), .val (.ref ak), .val (.int (if ((([c0, c1, c2, c3] : List Int32).take tt).drop ff).all (okb lt) = true then (1 : Int32) else 0)), .unset] [(.int c0), (.int lt), (.int (Int32.ofNat tt)), (.int (Int32.ofNat ff)), (.int (Int32.ofNat 0))]
    refine w373.callS (wd hw 39 rfl) (wd hw 40 rfl) (wd hw 41 rfl) (wd hw 42 rfl) (by decide) (argsL := [(.int (Int32.ofNat 0)), (.int (Int32.ofNat ff)), (.int (Int32.ofNat tt)), (.int lt), (.int c0)]) (Wd := 0) (Ctr.pays (len := 3) (Wd := 0) (c_cov l Z a0 hw hEL hJS hJU aD aL hK (i := 0) hlt) w373 (wd hw 42 rfl) (wd hw 41 rfl) hEL (by decide) (by decide) sfNil) pd19 rfl (st := []) rfl rfl (Nat.le_of_eq rfl) (dc.g 83 rfl) (by decide) (by decide) ?_
    intro vm379 T380 h381 v382 w383 C384 Q385
    obtain ⟨eQ385, rfl⟩ := Q385
    subst eQ385
    show Go κ _ T380 137 #[.val (.int p0), .val (.int p1), .val (.int p2), .val (.int p3), .val (.int p4), .val (.int c0), .val (.int c1), .val (.int c2), .val (.int c3), .val (.ref x287), .val (.int lt), .val (.int (Int32.ofNat ff)), .val (.int (Int32.ofNat tt)), .val (.ref ak), .val (.int (if ((([c0, c1, c2, c3] : List Int32).take tt).drop ff).all (okb lt) = true then (1 : Int32) else 0)), .unset] [(.int (if cov ff tt 0 (okb lt c0) then (1 : Int32) else 0))]
    by_cases hk386 : cov ff tt 0 (okb lt c0)
    · refine Go.top (y := (1 : Int32)) (if_pos hk386) ?_
      show Go κ _ T380 137 #[.val (.int p0), .val (.int p1), .val (.int p2), .val (.int p3), .val (.int p4), .val (.int c0), .val (.int c1), .val (.int c2), .val (.int c3), .val (.ref x287), .val (.int lt), .val (.int (Int32.ofNat ff)), .val (.int (Int32.ofNat tt)), .val (.ref ak), .val (.int (if ((([c0, c1, c2, c3] : List Int32).take tt).drop ff).all (okb lt) = true then (1 : Int32) else 0)), .unset] [(.int (1 : Int32))]
      refine zEq (pc' := 189) w383.ok (dc.g 84 rfl) (by decide) (by decide) (fun hc387 => absurd hc387 (by decide)) (fun hc387 => ?_)
      show Go κ _ T380 140 #[.val (.int p0), .val (.int p1), .val (.int p2), .val (.int p3), .val (.int p4), .val (.int c0), .val (.int c1), .val (.int c2), .val (.int c3), .val (.ref x287), .val (.int lt), .val (.int (Int32.ofNat ff)), .val (.int (Int32.ofNat tt)), .val (.ref ak), .val (.int (if ((([c0, c1, c2, c3] : List Int32).take tt).drop ff).all (okb lt) = true then (1 : Int32) else 0)), .unset] []
      refine blk (pc' := 149) (Ls' := #[.val (.int p0), .val (.int p1), .val (.int p2), .val (.int p3), .val (.int p4), .val (.int c0), .val (.int c1), .val (.int c2), .val (.int c3), .val (.ref x287), .val (.int lt), .val (.int (Int32.ofNat ff)), .val (.int (Int32.ofNat tt)), .val (.ref ak), .val (.int (if ((([c0, c1, c2, c3] : List Int32).take tt).drop ff).all (okb lt) = true then (1 : Int32) else 0)), .unset]) (st' := [(.int c1), (.int lt), (.int (Int32.ofNat tt)), (.int (Int32.ofNat ff)), (.int (1 : Int32))]) [oIconst w383.ok (dc.g 85 rfl), oIload w383.ok (dc.g 86 rfl), oIload w383.ok (dc.g 87 rfl), oIload w383.ok (dc.g 88 rfl), oIload w383.ok (dc.g 89 rfl)] rfl ?_
      show Go κ _ T380 149 #[.val (.int p0), .val (.int p1), .val (.int p2), .val (.int p3), .val (.int p4), .val (.int c0), .val (.int c1), .val (.int c2), .val (.int c3), .val (.ref x287), .val (.int lt), .val (.int (Int32.ofNat ff)), .val (.int (Int32.ofNat tt)), .val (.ref ak), .val (.int (if ((([c0, c1, c2, c3] : List Int32).take tt).drop ff).all (okb lt) = true then (1 : Int32) else 0)), .unset] [(.int c1), (.int lt), (.int (Int32.ofNat tt)), (.int (Int32.ofNat ff)), (.int (Int32.ofNat 1))]
      refine w383.callS (wd hw 39 rfl) (wd hw 40 rfl) (wd hw 41 rfl) (wd hw 42 rfl) (by decide) (argsL := [(.int (Int32.ofNat 1)), (.int (Int32.ofNat ff)), (.int (Int32.ofNat tt)), (.int lt), (.int c1)]) (Wd := 0) (Ctr.pays (len := 3) (Wd := 0) (c_cov l Z a0 hw hEL hJS hJU aD aL hK (i := 1) hlt) w383 (wd hw 42 rfl) (wd hw 41 rfl) hEL (by decide) (by decide) sfNil) pd19 rfl (st := []) rfl rfl (Nat.le_of_eq rfl) (dc.g 90 rfl) (by decide) (by decide) ?_
      intro vm388 T389 h390 v391 w392 C393 Q394
      obtain ⟨eQ394, rfl⟩ := Q394
      subst eQ394
      show Go κ _ T389 152 #[.val (.int p0), .val (.int p1), .val (.int p2), .val (.int p3), .val (.int p4), .val (.int c0), .val (.int c1), .val (.int c2), .val (.int c3), .val (.ref x287), .val (.int lt), .val (.int (Int32.ofNat ff)), .val (.int (Int32.ofNat tt)), .val (.ref ak), .val (.int (if ((([c0, c1, c2, c3] : List Int32).take tt).drop ff).all (okb lt) = true then (1 : Int32) else 0)), .unset] [(.int (if cov ff tt 1 (okb lt c1) then (1 : Int32) else 0))]
      by_cases hk395 : cov ff tt 1 (okb lt c1)
      · refine Go.top (y := (1 : Int32)) (if_pos hk395) ?_
        show Go κ _ T389 152 #[.val (.int p0), .val (.int p1), .val (.int p2), .val (.int p3), .val (.int p4), .val (.int c0), .val (.int c1), .val (.int c2), .val (.int c3), .val (.ref x287), .val (.int lt), .val (.int (Int32.ofNat ff)), .val (.int (Int32.ofNat tt)), .val (.ref ak), .val (.int (if ((([c0, c1, c2, c3] : List Int32).take tt).drop ff).all (okb lt) = true then (1 : Int32) else 0)), .unset] [(.int (1 : Int32))]
        refine zEq (pc' := 189) w392.ok (dc.g 91 rfl) (by decide) (by decide) (fun hc396 => absurd hc396 (by decide)) (fun hc396 => ?_)
        show Go κ _ T389 155 #[.val (.int p0), .val (.int p1), .val (.int p2), .val (.int p3), .val (.int p4), .val (.int c0), .val (.int c1), .val (.int c2), .val (.int c3), .val (.ref x287), .val (.int lt), .val (.int (Int32.ofNat ff)), .val (.int (Int32.ofNat tt)), .val (.ref ak), .val (.int (if ((([c0, c1, c2, c3] : List Int32).take tt).drop ff).all (okb lt) = true then (1 : Int32) else 0)), .unset] []
        refine blk (pc' := 164) (Ls' := #[.val (.int p0), .val (.int p1), .val (.int p2), .val (.int p3), .val (.int p4), .val (.int c0), .val (.int c1), .val (.int c2), .val (.int c3), .val (.ref x287), .val (.int lt), .val (.int (Int32.ofNat ff)), .val (.int (Int32.ofNat tt)), .val (.ref ak), .val (.int (if ((([c0, c1, c2, c3] : List Int32).take tt).drop ff).all (okb lt) = true then (1 : Int32) else 0)), .unset]) (st' := [(.int c2), (.int lt), (.int (Int32.ofNat tt)), (.int (Int32.ofNat ff)), (.int (2 : Int32))]) [oIconst w392.ok (dc.g 92 rfl), oIload w392.ok (dc.g 93 rfl), oIload w392.ok (dc.g 94 rfl), oIload w392.ok (dc.g 95 rfl), oIload w392.ok (dc.g 96 rfl)] rfl ?_
        show Go κ _ T389 164 #[.val (.int p0), .val (.int p1), .val (.int p2), .val (.int p3), .val (.int p4), .val (.int c0), .val (.int c1), .val (.int c2), .val (.int c3), .val (.ref x287), .val (.int lt), .val (.int (Int32.ofNat ff)), .val (.int (Int32.ofNat tt)), .val (.ref ak), .val (.int (if ((([c0, c1, c2, c3] : List Int32).take tt).drop ff).all (okb lt) = true then (1 : Int32) else 0)), .unset] [(.int c2), (.int lt), (.int (Int32.ofNat tt)), (.int (Int32.ofNat ff)), (.int (Int32.ofNat 2))]
        refine w392.callS (wd hw 39 rfl) (wd hw 40 rfl) (wd hw 41 rfl) (wd hw 42 rfl) (by decide) (argsL := [(.int (Int32.ofNat 2)), (.int (Int32.ofNat ff)), (.int (Int32.ofNat tt)), (.int lt), (.int c2)]) (Wd := 0) (Ctr.pays (len := 3) (Wd := 0) (c_cov l Z a0 hw hEL hJS hJU aD aL hK (i := 2) hlt) w392 (wd hw 42 rfl) (wd hw 41 rfl) hEL (by decide) (by decide) sfNil) pd19 rfl (st := []) rfl rfl (Nat.le_of_eq rfl) (dc.g 97 rfl) (by decide) (by decide) ?_
        intro vm397 T398 h399 v400 w401 C402 Q403
        obtain ⟨eQ403, rfl⟩ := Q403
        subst eQ403
        show Go κ _ T398 167 #[.val (.int p0), .val (.int p1), .val (.int p2), .val (.int p3), .val (.int p4), .val (.int c0), .val (.int c1), .val (.int c2), .val (.int c3), .val (.ref x287), .val (.int lt), .val (.int (Int32.ofNat ff)), .val (.int (Int32.ofNat tt)), .val (.ref ak), .val (.int (if ((([c0, c1, c2, c3] : List Int32).take tt).drop ff).all (okb lt) = true then (1 : Int32) else 0)), .unset] [(.int (if cov ff tt 2 (okb lt c2) then (1 : Int32) else 0))]
        by_cases hk404 : cov ff tt 2 (okb lt c2)
        · refine Go.top (y := (1 : Int32)) (if_pos hk404) ?_
          show Go κ _ T398 167 #[.val (.int p0), .val (.int p1), .val (.int p2), .val (.int p3), .val (.int p4), .val (.int c0), .val (.int c1), .val (.int c2), .val (.int c3), .val (.ref x287), .val (.int lt), .val (.int (Int32.ofNat ff)), .val (.int (Int32.ofNat tt)), .val (.ref ak), .val (.int (if ((([c0, c1, c2, c3] : List Int32).take tt).drop ff).all (okb lt) = true then (1 : Int32) else 0)), .unset] [(.int (1 : Int32))]
          refine zEq (pc' := 189) w401.ok (dc.g 98 rfl) (by decide) (by decide) (fun hc405 => absurd hc405 (by decide)) (fun hc405 => ?_)
          show Go κ _ T398 170 #[.val (.int p0), .val (.int p1), .val (.int p2), .val (.int p3), .val (.int p4), .val (.int c0), .val (.int c1), .val (.int c2), .val (.int c3), .val (.ref x287), .val (.int lt), .val (.int (Int32.ofNat ff)), .val (.int (Int32.ofNat tt)), .val (.ref ak), .val (.int (if ((([c0, c1, c2, c3] : List Int32).take tt).drop ff).all (okb lt) = true then (1 : Int32) else 0)), .unset] []
          refine blk (pc' := 179) (Ls' := #[.val (.int p0), .val (.int p1), .val (.int p2), .val (.int p3), .val (.int p4), .val (.int c0), .val (.int c1), .val (.int c2), .val (.int c3), .val (.ref x287), .val (.int lt), .val (.int (Int32.ofNat ff)), .val (.int (Int32.ofNat tt)), .val (.ref ak), .val (.int (if ((([c0, c1, c2, c3] : List Int32).take tt).drop ff).all (okb lt) = true then (1 : Int32) else 0)), .unset]) (st' := [(.int c3), (.int lt), (.int (Int32.ofNat tt)), (.int (Int32.ofNat ff)), (.int (3 : Int32))]) [oIconst w401.ok (dc.g 99 rfl), oIload w401.ok (dc.g 100 rfl), oIload w401.ok (dc.g 101 rfl), oIload w401.ok (dc.g 102 rfl), oIload w401.ok (dc.g 103 rfl)] rfl ?_
          show Go κ _ T398 179 #[.val (.int p0), .val (.int p1), .val (.int p2), .val (.int p3), .val (.int p4), .val (.int c0), .val (.int c1), .val (.int c2), .val (.int c3), .val (.ref x287), .val (.int lt), .val (.int (Int32.ofNat ff)), .val (.int (Int32.ofNat tt)), .val (.ref ak), .val (.int (if ((([c0, c1, c2, c3] : List Int32).take tt).drop ff).all (okb lt) = true then (1 : Int32) else 0)), .unset] [(.int c3), (.int lt), (.int (Int32.ofNat tt)), (.int (Int32.ofNat ff)), (.int (Int32.ofNat 3))]
          refine w401.callS (wd hw 39 rfl) (wd hw 40 rfl) (wd hw 41 rfl) (wd hw 42 rfl) (by decide) (argsL := [(.int (Int32.ofNat 3)), (.int (Int32.ofNat ff)), (.int (Int32.ofNat tt)), (.int lt), (.int c3)]) (Wd := 0) (Ctr.pays (len := 3) (Wd := 0) (c_cov l Z a0 hw hEL hJS hJU aD aL hK (i := 3) hlt) w401 (wd hw 42 rfl) (wd hw 41 rfl) hEL (by decide) (by decide) sfNil) pd19 rfl (st := []) rfl rfl (Nat.le_of_eq rfl) (dc.g 104 rfl) (by decide) (by decide) ?_
          intro vm406 T407 h408 v409 w410 C411 Q412
          obtain ⟨eQ412, rfl⟩ := Q412
          subst eQ412
          show Go κ _ T407 182 #[.val (.int p0), .val (.int p1), .val (.int p2), .val (.int p3), .val (.int p4), .val (.int c0), .val (.int c1), .val (.int c2), .val (.int c3), .val (.ref x287), .val (.int lt), .val (.int (Int32.ofNat ff)), .val (.int (Int32.ofNat tt)), .val (.ref ak), .val (.int (if ((([c0, c1, c2, c3] : List Int32).take tt).drop ff).all (okb lt) = true then (1 : Int32) else 0)), .unset] [(.int (if cov ff tt 3 (okb lt c3) then (1 : Int32) else 0))]
          by_cases hk413 : cov ff tt 3 (okb lt c3)
          · refine Go.top (y := (1 : Int32)) (if_pos hk413) ?_
            show Go κ _ T407 182 #[.val (.int p0), .val (.int p1), .val (.int p2), .val (.int p3), .val (.int p4), .val (.int c0), .val (.int c1), .val (.int c2), .val (.int c3), .val (.ref x287), .val (.int lt), .val (.int (Int32.ofNat ff)), .val (.int (Int32.ofNat tt)), .val (.ref ak), .val (.int (if ((([c0, c1, c2, c3] : List Int32).take tt).drop ff).all (okb lt) = true then (1 : Int32) else 0)), .unset] [(.int (1 : Int32))]
            refine zEq (pc' := 189) w410.ok (dc.g 105 rfl) (by decide) (by decide) (fun hc414 => absurd hc414 (by decide)) (fun hc414 => ?_)
            show Go κ _ T407 185 #[.val (.int p0), .val (.int p1), .val (.int p2), .val (.int p3), .val (.int p4), .val (.int c0), .val (.int c1), .val (.int c2), .val (.int c3), .val (.ref x287), .val (.int lt), .val (.int (Int32.ofNat ff)), .val (.int (Int32.ofNat tt)), .val (.ref ak), .val (.int (if ((([c0, c1, c2, c3] : List Int32).take tt).drop ff).all (okb lt) = true then (1 : Int32) else 0)), .unset] []
            refine blk (pc' := 190) (Ls' := #[.val (.int p0), .val (.int p1), .val (.int p2), .val (.int p3), .val (.int p4), .val (.int c0), .val (.int c1), .val (.int c2), .val (.int c3), .val (.ref x287), .val (.int lt), .val (.int (Int32.ofNat ff)), .val (.int (Int32.ofNat tt)), .val (.ref ak), .val (.int (if ((([c0, c1, c2, c3] : List Int32).take tt).drop ff).all (okb lt) = true then (1 : Int32) else 0)), .unset]) (st' := [(.int (1 : Int32))]) [oIconst w410.ok (dc.g 106 rfl), oGoto w410.ok 190 (dc.g 107 rfl)] rfl ?_
            exact k190 _ _ _ (by rw [if_pos ((own_cov hff htt).mpr ⟨(own_covI hff htt (by decide)).mp hk386, (own_covI hff htt (by decide)).mp hk395, (own_covI hff htt (by decide)).mp hk404, (own_covI hff htt (by decide)).mp hk413⟩)]) (w410.mono (by decide) (by decide))
          · refine Go.top (y := (0 : Int32)) (if_neg hk413) ?_
            show Go κ _ T407 182 #[.val (.int p0), .val (.int p1), .val (.int p2), .val (.int p3), .val (.int p4), .val (.int c0), .val (.int c1), .val (.int c2), .val (.int c3), .val (.ref x287), .val (.int lt), .val (.int (Int32.ofNat ff)), .val (.int (Int32.ofNat tt)), .val (.ref ak), .val (.int (if ((([c0, c1, c2, c3] : List Int32).take tt).drop ff).all (okb lt) = true then (1 : Int32) else 0)), .unset] [(.int (0 : Int32))]
            refine zEq (pc' := 189) w410.ok (dc.g 105 rfl) (by decide) (by decide) (fun hc415 => ?_) (fun hc415 => absurd rfl hc415)
            show Go κ _ T407 189 #[.val (.int p0), .val (.int p1), .val (.int p2), .val (.int p3), .val (.int p4), .val (.int c0), .val (.int c1), .val (.int c2), .val (.int c3), .val (.ref x287), .val (.int lt), .val (.int (Int32.ofNat ff)), .val (.int (Int32.ofNat tt)), .val (.ref ak), .val (.int (if ((([c0, c1, c2, c3] : List Int32).take tt).drop ff).all (okb lt) = true then (1 : Int32) else 0)), .unset] []
            refine blk (pc' := 190) (Ls' := #[.val (.int p0), .val (.int p1), .val (.int p2), .val (.int p3), .val (.int p4), .val (.int c0), .val (.int c1), .val (.int c2), .val (.int c3), .val (.ref x287), .val (.int lt), .val (.int (Int32.ofNat ff)), .val (.int (Int32.ofNat tt)), .val (.ref ak), .val (.int (if ((([c0, c1, c2, c3] : List Int32).take tt).drop ff).all (okb lt) = true then (1 : Int32) else 0)), .unset]) (st' := [(.int (0 : Int32))]) [oIconst w410.ok (dc.g 108 rfl)] rfl ?_
            exact k190 _ _ _ (by rw [if_neg (fun q => hk413 ((own_covI hff htt (by decide)).mpr ((own_cov hff htt).mp q).2.2.2))]) (w410.mono (by decide) (by decide))
        · refine Go.top (y := (0 : Int32)) (if_neg hk404) ?_
          show Go κ _ T398 167 #[.val (.int p0), .val (.int p1), .val (.int p2), .val (.int p3), .val (.int p4), .val (.int c0), .val (.int c1), .val (.int c2), .val (.int c3), .val (.ref x287), .val (.int lt), .val (.int (Int32.ofNat ff)), .val (.int (Int32.ofNat tt)), .val (.ref ak), .val (.int (if ((([c0, c1, c2, c3] : List Int32).take tt).drop ff).all (okb lt) = true then (1 : Int32) else 0)), .unset] [(.int (0 : Int32))]
          refine zEq (pc' := 189) w401.ok (dc.g 98 rfl) (by decide) (by decide) (fun hc416 => ?_) (fun hc416 => absurd rfl hc416)
          show Go κ _ T398 189 #[.val (.int p0), .val (.int p1), .val (.int p2), .val (.int p3), .val (.int p4), .val (.int c0), .val (.int c1), .val (.int c2), .val (.int c3), .val (.ref x287), .val (.int lt), .val (.int (Int32.ofNat ff)), .val (.int (Int32.ofNat tt)), .val (.ref ak), .val (.int (if ((([c0, c1, c2, c3] : List Int32).take tt).drop ff).all (okb lt) = true then (1 : Int32) else 0)), .unset] []
          refine blk (pc' := 190) (Ls' := #[.val (.int p0), .val (.int p1), .val (.int p2), .val (.int p3), .val (.int p4), .val (.int c0), .val (.int c1), .val (.int c2), .val (.int c3), .val (.ref x287), .val (.int lt), .val (.int (Int32.ofNat ff)), .val (.int (Int32.ofNat tt)), .val (.ref ak), .val (.int (if ((([c0, c1, c2, c3] : List Int32).take tt).drop ff).all (okb lt) = true then (1 : Int32) else 0)), .unset]) (st' := [(.int (0 : Int32))]) [oIconst w401.ok (dc.g 108 rfl)] rfl ?_
          exact k190 _ _ _ (by rw [if_neg (fun q => hk404 ((own_covI hff htt (by decide)).mpr ((own_cov hff htt).mp q).2.2.1))]) (w401.mono (by decide) (by decide))
      · refine Go.top (y := (0 : Int32)) (if_neg hk395) ?_
        show Go κ _ T389 152 #[.val (.int p0), .val (.int p1), .val (.int p2), .val (.int p3), .val (.int p4), .val (.int c0), .val (.int c1), .val (.int c2), .val (.int c3), .val (.ref x287), .val (.int lt), .val (.int (Int32.ofNat ff)), .val (.int (Int32.ofNat tt)), .val (.ref ak), .val (.int (if ((([c0, c1, c2, c3] : List Int32).take tt).drop ff).all (okb lt) = true then (1 : Int32) else 0)), .unset] [(.int (0 : Int32))]
        refine zEq (pc' := 189) w392.ok (dc.g 91 rfl) (by decide) (by decide) (fun hc417 => ?_) (fun hc417 => absurd rfl hc417)
        show Go κ _ T389 189 #[.val (.int p0), .val (.int p1), .val (.int p2), .val (.int p3), .val (.int p4), .val (.int c0), .val (.int c1), .val (.int c2), .val (.int c3), .val (.ref x287), .val (.int lt), .val (.int (Int32.ofNat ff)), .val (.int (Int32.ofNat tt)), .val (.ref ak), .val (.int (if ((([c0, c1, c2, c3] : List Int32).take tt).drop ff).all (okb lt) = true then (1 : Int32) else 0)), .unset] []
        refine blk (pc' := 190) (Ls' := #[.val (.int p0), .val (.int p1), .val (.int p2), .val (.int p3), .val (.int p4), .val (.int c0), .val (.int c1), .val (.int c2), .val (.int c3), .val (.ref x287), .val (.int lt), .val (.int (Int32.ofNat ff)), .val (.int (Int32.ofNat tt)), .val (.ref ak), .val (.int (if ((([c0, c1, c2, c3] : List Int32).take tt).drop ff).all (okb lt) = true then (1 : Int32) else 0)), .unset]) (st' := [(.int (0 : Int32))]) [oIconst w392.ok (dc.g 108 rfl)] rfl ?_
        exact k190 _ _ _ (by rw [if_neg (fun q => hk395 ((own_covI hff htt (by decide)).mpr ((own_cov hff htt).mp q).2.1))]) (w392.mono (by decide) (by decide))
    · refine Go.top (y := (0 : Int32)) (if_neg hk386) ?_
      show Go κ _ T380 137 #[.val (.int p0), .val (.int p1), .val (.int p2), .val (.int p3), .val (.int p4), .val (.int c0), .val (.int c1), .val (.int c2), .val (.int c3), .val (.ref x287), .val (.int lt), .val (.int (Int32.ofNat ff)), .val (.int (Int32.ofNat tt)), .val (.ref ak), .val (.int (if ((([c0, c1, c2, c3] : List Int32).take tt).drop ff).all (okb lt) = true then (1 : Int32) else 0)), .unset] [(.int (0 : Int32))]
      refine zEq (pc' := 189) w383.ok (dc.g 84 rfl) (by decide) (by decide) (fun hc418 => ?_) (fun hc418 => absurd rfl hc418)
      show Go κ _ T380 189 #[.val (.int p0), .val (.int p1), .val (.int p2), .val (.int p3), .val (.int p4), .val (.int c0), .val (.int c1), .val (.int c2), .val (.int c3), .val (.ref x287), .val (.int lt), .val (.int (Int32.ofNat ff)), .val (.int (Int32.ofNat tt)), .val (.ref ak), .val (.int (if ((([c0, c1, c2, c3] : List Int32).take tt).drop ff).all (okb lt) = true then (1 : Int32) else 0)), .unset] []
      refine blk (pc' := 190) (Ls' := #[.val (.int p0), .val (.int p1), .val (.int p2), .val (.int p3), .val (.int p4), .val (.int c0), .val (.int c1), .val (.int c2), .val (.int c3), .val (.ref x287), .val (.int lt), .val (.int (Int32.ofNat ff)), .val (.int (Int32.ofNat tt)), .val (.ref ak), .val (.int (if ((([c0, c1, c2, c3] : List Int32).take tt).drop ff).all (okb lt) = true then (1 : Int32) else 0)), .unset]) (st' := [(.int (0 : Int32))]) [oIconst w383.ok (dc.g 108 rfl)] rfl ?_
      exact k190 _ _ _ (by rw [if_neg (fun q => hk386 ((own_covI hff htt (by decide)).mpr ((own_cov hff htt).mp q).1))]) (w383.mono (by decide) (by decide))
  intro r15 vm376 T377 hr15 w378
  show Go κ _ T377 190 #[.val (.int p0), .val (.int p1), .val (.int p2), .val (.int p3), .val (.int p4), .val (.int c0), .val (.int c1), .val (.int c2), .val (.int c3), .val (.ref x287), .val (.int lt), .val (.int (Int32.ofNat ff)), .val (.int (Int32.ofNat tt)), .val (.ref ak), .val (.int (if ((([c0, c1, c2, c3] : List Int32).take tt).drop ff).all (okb lt) = true then (1 : Int32) else 0)), .unset] [(.int r15)]
  refine blk (pc' := 196) (Ls' := #[.val (.int p0), .val (.int p1), .val (.int p2), .val (.int p3), .val (.int p4), .val (.int c0), .val (.int c1), .val (.int c2), .val (.int c3), .val (.ref x287), .val (.int lt), .val (.int (Int32.ofNat ff)), .val (.int (Int32.ofNat tt)), .val (.ref ak), .val (.int (if ((([c0, c1, c2, c3] : List Int32).take tt).drop ff).all (okb lt) = true then (1 : Int32) else 0)), .val (.int r15)]) (st' := [(.int r15), (.int (if ((([c0, c1, c2, c3] : List Int32).take tt).drop ff).all (okb lt) = true then (1 : Int32) else 0))]) [oIstore w378.ok (dc.g 109 rfl), oIload w378.ok (dc.g 110 rfl), oIload w378.ok (dc.g 111 rfl)] rfl ?_
  refine cNe (pc' := 203) w378.ok (dc.g 112 rfl) (by decide) (by decide) (fun hc419 => absurd hr15.symm hc419) (fun hc419 => ?_)
  show Go κ _ T377 199 #[.val (.int p0), .val (.int p1), .val (.int p2), .val (.int p3), .val (.int p4), .val (.int c0), .val (.int c1), .val (.int c2), .val (.int c3), .val (.ref x287), .val (.int lt), .val (.int (Int32.ofNat ff)), .val (.int (Int32.ofNat tt)), .val (.ref ak), .val (.int (if ((([c0, c1, c2, c3] : List Int32).take tt).drop ff).all (okb lt) = true then (1 : Int32) else 0)), .val (.int r15)] []
  refine blk (pc' := 204) (Ls' := #[.val (.int p0), .val (.int p1), .val (.int p2), .val (.int p3), .val (.int p4), .val (.int c0), .val (.int c1), .val (.int c2), .val (.int c3), .val (.ref x287), .val (.int lt), .val (.int (Int32.ofNat ff)), .val (.int (Int32.ofNat tt)), .val (.ref ak), .val (.int (if ((([c0, c1, c2, c3] : List Int32).take tt).drop ff).all (okb lt) = true then (1 : Int32) else 0)), .val (.int r15)]) (st' := [(.int (1 : Int32))]) [oIconst w378.ok (dc.g 113 rfl), oGoto w378.ok 204 (dc.g 114 rfl)] rfl ?_
  exact w378.retI (t := .boolean) rfl (Or.inr (Or.inl rfl)) rfl (dc.g 116 rfl) (by decide) (by decide) (fun S hS => rfl)
set_option maxRecDepth 65536 in
set_option maxHeartbeats 4000000 in
theorem comes_1 {Post : Tables → Env → Array Value → State → Outcome → State → Prop} (hpost : ∀ tb e args s v u, (limb_1_1.after args s (.returned v) u = true ∧ limb_1_2.after args s (.returned v) u = true ∧ True) → FrameEnd s (.returned v) u (Jvm.fieldLocs frame_1_writes args s ++ Jvm.arrayLocs frame_1_arrays args s ++ Jvm.staticLocs frame_1_statics s) 16 128 → Post tb e args s (.returned v) u) :
    ArmFor flags0 classFile x code maxLocals ret World_1 tables_1 room_1 Calls_1 rest_1 Pre_1 Post := by
  intro l hfl _ _ p e ha hc hk s m args below hf hA hF happ hP
  obtain ⟨hcalls, hrest, hpre⟩ := hP
  obtain ⟨-, -, -, hnamed, -, -, -, hat⟩ := (Spec.applies_iff hf).mp happ
  obtain ⟨hg, hn⟩ := and_e (Cond.before_iff.mp (show (Jvm.Cond.and given_1 narrow_1).before args s = true from hpre))
  obtain ⟨hct, q0⟩ := and_e hg
  obtain ⟨g0, q1⟩ := and_e q0
  obtain ⟨g1, q2⟩ := and_e q1
  obtain ⟨g2, q3⟩ := and_e q2
  obtain ⟨g3, q4⟩ := and_e q3
  have g4 := q4
  obtain ⟨w0, w1, w2, w3, w4, rfl⟩ : ∃ w0 w1 w2 w3 w4 : Value, args = #[w0, w1, w2, w3, w4] := by
    have hs : args.size = 5 := by simpa [Cond.value, given_1] using hct
    obtain ⟨L⟩ := args
    match L, hs with
    | [w0, w1, w2, w3, w4], _ => exact ⟨w0, w1, w2, w3, w4, rfl⟩
  obtain ⟨i0, e0⟩ := is_v g0
  obtain rfl : w0 = (.int i0) := Option.some.inj e0
  obtain ⟨i1, e1⟩ := is_v g1
  obtain rfl : w1 = (.int i1) := Option.some.inj e1
  obtain ⟨i2, e2⟩ := is_v g2
  obtain rfl : w2 = (.int i2) := Option.some.inj e2
  obtain ⟨i3, e3⟩ := is_v g3
  obtain rfl : w3 = (.int i3) := Option.some.inj e3
  obtain ⟨i4, e4⟩ := is_v g4
  obtain rfl : w4 = (.int i4) := Option.some.inj e4
  have hw := fun d (hd : d ∈ tables_1) => atoms_spec (ws := Jvm.Cond.code x code maxLocals ret :: tables_1) hat d (List.mem_cons_of_mem _ hd)
  obtain ⟨hsets, hown0⟩ := atoms_of _ (rest_1_c_eq ▸ (show rest_1_c.before _ s = true from hrest))
  have hfit : Fit s := fun {y c} hc i hi => by
    obtain ⟨ha, rfl⟩ := Array.getElem?_eq_some_iff.mp hc
    have q := List.all_eq_true.mp ((Array.all_eq_true_iff_forall_mem.mp hF) _ (Array.getElem_mem ha)) i (List.mem_range.mpr hi)
    simpa [Array.getElem?_eq_getElem hi] using q
  have n5 := not_v (Cond.before_iff.mp (hsets _ (List.mem_of_getElem? (i := 2) rfl)))
  obtain ⟨zc, ez⟩ := is_v (Cond.before_iff.mp (hsets _ (List.mem_of_getElem? (i := 1) rfl)))
  have Scs : Sta s s.heap "java/lang/String" "COMPACT_STRINGS" "Z" (.int zc) := Sta.start ez (Or.inl (hsets _ (List.mem_of_getElem? (i := 0) rfl)))
  have ncs : ¬ (zc = (0 : Int32)) := gotF (Cond.eq_ints ez (Term.int_eval (0))) n5
  obtain ⟨vf, ef, rf⟩ := isR_v (Cond.before_iff.mp (hsets _ (List.mem_of_getElem? (i := 8) rfl)))
  have Sf0 : Sta s s.heap "jdk/internal/util/Preconditions" "SIOOBE_FORMATTER" "Ljava/util/function/BiFunction;" vf := Sta.start ef (Or.inl (hsets _ (List.mem_of_getElem? (i := 7) rfl)))
  have hJS : JS s := ⟨⟨zc, Scs, ncs⟩, vf, Sf0, rf⟩
  have hJU : JU s := ⟨Sta.start (own_eqi (Cond.before_iff.mp (hsets _ (List.mem_of_getElem? (i := 12) rfl)))) (Or.inl (hsets _ (List.mem_of_getElem? (i := 11) rfl))), Sta.start (own_eqi (Cond.before_iff.mp (hsets _ (List.mem_of_getElem? (i := 15) rfl)))) (Or.inl (hsets _ (List.mem_of_getElem? (i := 14) rfl))), Sta.start (own_eqi (Cond.before_iff.mp (hsets _ (List.mem_of_getElem? (i := 18) rfl)))) (Or.inl (hsets _ (List.mem_of_getElem? (i := 17) rfl)))⟩
  obtain ⟨z0, hn1⟩ := and_e hn
  obtain ⟨z1, hn2⟩ := and_e hn1
  obtain ⟨z2, hn3⟩ := and_e hn2
  have z3 := hn3
  obtain ⟨y0, ey0⟩ := exa_v z0
  have F0 := Fld.start (own_fldi ey0 (own_eqi z3))
  have X0 := Exa.start ey0 z0
  obtain ⟨y1, ey1⟩ := exa_v z1
  have F1 := Fld.start (own_fldi ey1 (own_eqi z2))
  have X1 := Exa.start ey1 z1
  have hK : KD s y0 y1 := ⟨⟨Sta.start ey0 (Or.inr ⟨hw _ (List.mem_of_getElem? (i := 32) rfl), hw _ (List.mem_of_getElem? (i := 33) rfl)⟩), X0, F0⟩, ⟨Sta.start ey1 (Or.inr ⟨hw _ (List.mem_of_getElem? (i := 32) rfl), hw _ (List.mem_of_getElem? (i := 44) rfl)⟩), X1, F1⟩⟩
  obtain ⟨n, o, h1, h2, h3, _, L, rfl, ⟨rfl, N⟩, hNw, hq⟩ := c_law l s _ hw EW.nil hJS hJU _ _ hK s.heap ⟨Nat.le_refl _, fun _ _ q => q⟩ tables_1 p e ha hc hk s m _ below hf ((Spec.applies_iff_loose hf).mp happ).1 ⟨rfl, State.Warmed39.refl s, rfl, (fun _ h => nomatch h), fun _ h => nomatch h⟩ trivial
  refine ⟨n, _, h1, h2, h3, hpost _ _ _ _ _ _ ⟨Cond.after_iff.mpr rfl, Cond.after_iff.mpr (eq_i res_at (Term.int_eval (1)) rfl), trivial⟩ ⟨hq.1, hNw.2.2 s rfl, (hq.2.2.2.sift fun y hy => Or.inr (N y hy)).mono (by decide) (by decide)⟩⟩
theorem main_1_1 : Claimed_1_1 := comes_1 fun _ _ _ _ _ _ h hF => ⟨h.1, hF⟩
theorem main_1_2 : Claimed_1_2 := comes_1 fun _ _ _ _ _ _ h hF => ⟨h.2.1, hF⟩
end Jvm.Pilot.@@N@@
namespace Jvm.Pilot.@@N@@
open Jvm Jvm.ClassFile Sem Op Lib Jvm.Free Jvm.Stand Jvm.Pilot.@@N@@.Jvm.D
/-! MADE BY PROGRAM (witnessworld.py) out of the Statement's table words and the real class files: 19 classes; the members and pool entries that the words name. The judged class is class 1, her method 3. -/
namespace start1
open Jvm.ClassFile
def u (s : String) : CpInfo := .utf8 (stringToUtf16 s)
/-- a pool by its gaps: so many unusable entries, then the entry; so many at the end -/
def gap : Nat → List CpInfo → List CpInfo
  | 0, r => r
  | n + 1, r => .unusable :: gap n r
def poolList (es : List (Nat × CpInfo)) (last : Nat) : List CpInfo := es.foldr (fun e r => gap e.1 (e.2 :: r)) (gap last [])
def pool (es : List (Nat × CpInfo)) (last : Nat) : Array CpInfo := ⟨poolList es last⟩
def fileOf (pool : Array CpInfo) (this : Nat) (attrs : Array Attribute := #[]) (ms : Array MethodInfo := #[]) (fl : Nat := 33) (sup : Nat := 0) (ifs : Array Nat := #[]) (fds : Array FieldInfo := #[]) : ClassFile where
  minorVersion := 0
  majorVersion := 65
  constantPool := pool
  accessFlags := fl
  thisClass := this
  superClass := sup
  interfaces := ifs
  fields := fds
  methods := ms
  attributes := attrs
def plain (name : String) (sup : Option ClassId) : Class where
  name := name
  kind := .ordinary
  loader := none
  accessFlags := 33
  super := sup
  interfaces := #[]
  cf := none
  fields := #[]
  methods := #[]
  instanceTypes := #[]
  staticTypes := #[]
  resolved := #[]
  callSites := []
  init := .initialized
  statics := none
  mirror := none

def pool0 : Array CpInfo := pool [(5, u "<init>"), (0, u "()V"), (1, .class_ 10), (1, u "java/lang/Object")] 113

def k0c0 : Code := { maxStack := 0, maxLocals := 1, code := object_method_1_code, exceptionTable := #[], attributes := #[] }
def k0m0 : Method := { name := "<init>", desc := "()V", sig := { parameters := [], returnType := none }, accessFlags := 1, code := some k0c0 }
/-- java/lang/Object -/
def k0 : Class := { plain "java/lang/Object" none with
  accessFlags := 33
  interfaces := #[]
  cf := some (fileOf pool0 8 #[] #[{ accessFlags := 1, nameIndex := 5, descriptorIndex := 6, attributes := #[] }] 33 0 #[] #[])
  fields := #[]
  methods := #[k0m0]
  instanceTypes := #[]
  staticTypes := #[]
  resolved := Array.replicate 124 none
  statics := none }

def pool1 : Array CpInfo := pool [(2, .class_ 4), (1, u "java/lang/Object"), (0, u "<init>"), (0, u "()V"), (0, .methodref 8 9), (0, .class_ 10), (0, .nameAndType 11 12), (0, u "com/example/bogenwerk/bogenwerk/CharactersFillPinLaw"), (0, u "inSet"), (0, u "(ZC)Z"), (0, .integer 65535), (0, .class_ 15), (0, u "java/lang/String"), (0, .methodref 14 17), (0, .nameAndType 5 18), (0, u "([C)V"), (0, .fieldref 20 21), (0, .class_ 22), (0, .nameAndType 23 24), (0, u "com/example/bogenwerk/bogenwerk/HeaderChecks$Characters"), (0, u "LETTERS_OR_DIGITS"), (0, u "Lcom/example/bogenwerk/bogenwerk/HeaderChecks$Characters;"), (0, .fieldref 20 26), (0, .nameAndType 27 24), (0, u "DIGITS"), (0, .methodref 20 29), (0, .nameAndType 30 31), (0, u "fill"), (0, u "(Ljava/lang/String;II)Z"), (0, .methodref 8 33), (0, .nameAndType 34 35), (0, u "covered"), (0, u "(IIIZC)Z"), (3, u "law"), (0, u "(IIIII)Z")] 6

def k1m0 : Method := { name := "<init>", desc := "()V", sig := { parameters := [], returnType := none }, accessFlags := 2, code := none }
def k1c1 : Code := { maxStack := 2, maxLocals := 2, code := method_2_code, exceptionTable := #[], attributes := #[] }
def k1m1 : Method := { name := "inSet", desc := "(ZC)Z", sig := { parameters := [.boolean, .char], returnType := some .boolean }, accessFlags := 10, code := some k1c1 }
def k1c2 : Code := { maxStack := 2, maxLocals := 5, code := method_3_code, exceptionTable := #[], attributes := #[] }
def k1m2 : Method := { name := "covered", desc := "(IIIZC)Z", sig := { parameters := [.int, .int, .int, .boolean, .char], returnType := some .boolean }, accessFlags := 10, code := some k1c2 }
def k1c3 : Code := { maxStack := 6, maxLocals := 16, code := code, exceptionTable := #[], attributes := #[] }
def k1m3 : Method := { name := "law", desc := "(IIIII)Z", sig := { parameters := [.int, .int, .int, .int, .int], returnType := some .boolean }, accessFlags := 9, code := some k1c3 }
/-- com/example/bogenwerk/bogenwerk/CharactersFillPinLaw -/
def k1 : Class := { plain "com/example/bogenwerk/bogenwerk/CharactersFillPinLaw" (some 0) with
  accessFlags := 49
  interfaces := #[]
  cf := some (fileOf pool1 8 #[] #[{ accessFlags := 2, nameIndex := 5, descriptorIndex := 6, attributes := #[] }, { accessFlags := 10, nameIndex := 11, descriptorIndex := 12, attributes := #[] }, { accessFlags := 10, nameIndex := 34, descriptorIndex := 35, attributes := #[] }, { accessFlags := 9, nameIndex := 39, descriptorIndex := 40, attributes := #[] }] 49 2 #[] #[])
  fields := #[]
  methods := #[k1m0, k1m1, k1m2, k1m3]
  instanceTypes := #[]
  staticTypes := #[]
  resolved := Array.replicate 47 none
  statics := none }

def pool2 : Array CpInfo := pool [(1, .class_ 2), (0, u "java/io/Serializable"), (0, .class_ 4), (0, u "java/lang/Object")] 2

/-- java/io/Serializable -/
def k2 : Class := { plain "java/io/Serializable" (some 0) with
  accessFlags := 1537
  interfaces := #[]
  cf := some (fileOf pool2 1 #[] #[] 1537 3 #[] #[])
  fields := #[]
  methods := #[]
  instanceTypes := #[]
  staticTypes := #[]
  resolved := Array.replicate 7 none
  statics := none }

def pool3 : Array CpInfo := pool [(1, .class_ 2), (0, u "java/lang/Comparable"), (0, .class_ 4), (0, u "java/lang/Object")] 7

/-- java/lang/Comparable -/
def k3 : Class := { plain "java/lang/Comparable" (some 0) with
  accessFlags := 1537
  interfaces := #[]
  cf := some (fileOf pool3 1 #[] #[] 1537 3 #[] #[])
  fields := #[]
  methods := #[]
  instanceTypes := #[]
  staticTypes := #[]
  resolved := Array.replicate 12 none
  statics := none }

def pool4 : Array CpInfo := pool [(2, .class_ 4), (1, u "java/lang/CharSequence"), (42, .class_ 48), (0, u "java/lang/CharSequence$1CodePointIterator"), (10, .class_ 60), (0, u "java/lang/CharSequence$1CharIterator"), (5, .class_ 67), (0, u "java/lang/Object")] 63

/-- java/lang/CharSequence -/
def k4 : Class := { plain "java/lang/CharSequence" (some 0) with
  accessFlags := 1537
  interfaces := #[]
  cf := some (fileOf pool4 2 #[.nestMembers #[47, 59]] #[] 1537 66 #[] #[])
  fields := #[]
  methods := #[]
  instanceTypes := #[]
  staticTypes := #[]
  resolved := Array.replicate 131 none
  statics := none }

def pool5 : Array CpInfo := pool [(1, .class_ 2), (0, u "java/lang/constant/Constable"), (0, .class_ 4), (0, u "java/lang/Object")] 6

/-- java/lang/constant/Constable -/
def k5 : Class := { plain "java/lang/constant/Constable" (some 0) with
  accessFlags := 1537
  interfaces := #[]
  cf := some (fileOf pool5 1 #[] #[] 1537 3 #[] #[])
  fields := #[]
  methods := #[]
  instanceTypes := #[]
  staticTypes := #[]
  resolved := Array.replicate 11 none
  statics := none }

def pool6 : Array CpInfo := pool [(1, .class_ 2), (0, u "java/lang/constant/ConstantDesc"), (0, .class_ 4), (0, u "java/lang/Object")] 32

/-- java/lang/constant/ConstantDesc -/
def k6 : Class := { plain "java/lang/constant/ConstantDesc" (some 0) with
  accessFlags := 1537
  interfaces := #[]
  cf := some (fileOf pool6 1 #[] #[] 1537 3 #[] #[])
  fields := #[]
  methods := #[]
  instanceTypes := #[]
  staticTypes := #[]
  resolved := Array.replicate 37 none
  statics := none }

def pool7 : Array CpInfo := pool [(1, .methodref 2 3), (0, .class_ 4), (0, .nameAndType 5 6), (0, u "java/lang/Object"), (0, u "<init>"), (0, u "()V"), (2, .fieldref 10 11), (0, .class_ 12), (0, .nameAndType 13 14), (0, u "java/lang/String"), (0, u "value"), (0, u "[B"), (0, .fieldref 10 16), (0, .nameAndType 17 18), (0, u "coder"), (0, u "B"), (2, u "hash"), (0, u "I"), (2, u "hashIsZero"), (0, u "Z"), (0, .methodref 10 28), (0, .nameAndType 5 29), (0, u "([CIILjava/lang/Void;)V"), (8, .fieldref 10 39), (0, .nameAndType 40 26), (0, u "COMPACT_STRINGS"), (1, .class_ 44), (1, u "java/lang/StringUTF16"), (0, u "compress"), (1, .methodref 42 48), (0, .nameAndType 49 50), (0, u "coderFromArrayLen"), (0, u "([BI)B"), (56, .class_ 109), (1, u "java/lang/StringLatin1"), (32, u "()Z"), (34, .methodref 42 178), (0, .nameAndType 45 179), (0, u "([CII)[B"), (183, u "([BI)C"), (27, u "(II)V"), (35, u "(I)C"), (64, .methodref 10 493), (0, .nameAndType 494 142), (0, u "isLatin1"), (0, .methodref 107 496), (0, .nameAndType 497 363), (0, u "charAt"), (0, .methodref 42 496), (2, u "checkIndex"), (73, .class_ 576), (0, u "java/lang/CharSequence"), (22, u "CASE_INSENSITIVE_ORDER"), (0, u "Ljava/util/Comparator;"), (409, u "([C)V"), (42, .fieldref 1054 1055), (0, .class_ 1056), (0, .nameAndType 1057 1058), (0, u "jdk/internal/util/Preconditions"), (0, u "SIOOBE_FORMATTER"), (0, u "Ljava/util/function/BiFunction;"), (0, .methodref 1054 1060), (0, .nameAndType 501 1061), (0, u "(IILjava/util/function/BiFunction;)I"), (39, u "serialPersistentFields"), (0, u "[Ljava/io/ObjectStreamField;"), (0, .class_ 1104), (0, u "java/lang/String$CaseInsensitiveComparator"), (1, .class_ 1107), (0, u "java/io/Serializable"), (0, .class_ 1109), (0, u "java/lang/Comparable"), (0, .class_ 1111), (0, u "java/lang/constant/Constable"), (0, .class_ 1113), (0, u "java/lang/constant/ConstantDesc"), (2, u "serialVersionUID"), (0, u "J"), (3, u "REPL"), (0, u "C"), (2, u "LATIN1"), (1, u "UTF16")] 323

def k7m0 : Method := { name := "<init>", desc := "()V", sig := { parameters := [], returnType := none }, accessFlags := 1, code := none }
def k7c1 : Code := { maxStack := 5, maxLocals := 2, code := jdk_42_method_3_code, exceptionTable := #[], attributes := #[] }
def k7m1 : Method := { name := "<init>", desc := "([C)V", sig := { parameters := [(.array .char)], returnType := none }, accessFlags := 1, code := some k7c1 }
def k7c2 : Code := { maxStack := 2, maxLocals := 2, code := jdk_42_method_56_code, exceptionTable := #[], attributes := #[] }
def k7m2 : Method := { name := "charAt", desc := "(I)C", sig := { parameters := [.int], returnType := some .char }, accessFlags := 1, code := some k7c2 }
def k7c3 : Code := { maxStack := 4, maxLocals := 6, code := jdk_42_method_149_code, exceptionTable := #[], attributes := #[] }
def k7m3 : Method := { name := "<init>", desc := "([CIILjava/lang/Void;)V", sig := { parameters := [(.array .char), .int, .int, (.object "java/lang/Void")], returnType := none }, accessFlags := 2, code := some k7c3 }
def k7c4 : Code := { maxStack := 1, maxLocals := 1, code := jdk_42_method_154_code, exceptionTable := #[], attributes := #[] }
def k7m4 : Method := { name := "isLatin1", desc := "()Z", sig := { parameters := [], returnType := some .boolean }, accessFlags := 0, code := some k7c4 }
def k7c5 : Code := { maxStack := 3, maxLocals := 2, code := jdk_42_method_155_code, exceptionTable := #[], attributes := #[] }
def k7m5 : Method := { name := "checkIndex", desc := "(II)V", sig := { parameters := [.int, .int], returnType := none }, accessFlags := 8, code := some k7c5 }
/-- java/lang/String -/
def k7 : Class := { plain "java/lang/String" (some 0) with
  accessFlags := 49
  interfaces := #[2, 3, 4, 5, 6]
  cf := some (fileOf pool7 10 #[.nestMembers #[1103]] #[{ accessFlags := 1, nameIndex := 5, descriptorIndex := 6, attributes := #[] }, { accessFlags := 1, nameIndex := 5, descriptorIndex := 1010, attributes := #[] }, { accessFlags := 1, nameIndex := 497, descriptorIndex := 427, attributes := #[] }, { accessFlags := 2, nameIndex := 5, descriptorIndex := 29, attributes := #[] }, { accessFlags := 0, nameIndex := 494, descriptorIndex := 142, attributes := #[] }, { accessFlags := 8, nameIndex := 501, descriptorIndex := 391, attributes := #[] }] 49 2 #[1106, 1108, 575, 1110, 1112] #[{ accessFlags := 18, nameIndex := 13, descriptorIndex := 14, attributes := #[] }, { accessFlags := 18, nameIndex := 17, descriptorIndex := 18, attributes := #[] }, { accessFlags := 2, nameIndex := 21, descriptorIndex := 22, attributes := #[] }, { accessFlags := 2, nameIndex := 25, descriptorIndex := 26, attributes := #[] }, { accessFlags := 26, nameIndex := 1116, descriptorIndex := 1117, attributes := #[] }, { accessFlags := 24, nameIndex := 40, descriptorIndex := 26, attributes := #[] }, { accessFlags := 26, nameIndex := 1101, descriptorIndex := 1102, attributes := #[] }, { accessFlags := 26, nameIndex := 1121, descriptorIndex := 1122, attributes := #[] }, { accessFlags := 25, nameIndex := 599, descriptorIndex := 600, attributes := #[] }, { accessFlags := 24, nameIndex := 1125, descriptorIndex := 18, attributes := #[] }, { accessFlags := 24, nameIndex := 1127, descriptorIndex := 18, attributes := #[] }])
  fields := #[{ name := "value", type := (.array .byte), accessFlags := 18, slot := 0, constantValue := 0 }, { name := "coder", type := .byte, accessFlags := 18, slot := 1, constantValue := 0 }, { name := "hash", type := .int, accessFlags := 2, slot := 2, constantValue := 0 }, { name := "hashIsZero", type := .boolean, accessFlags := 2, slot := 3, constantValue := 0 }, { name := "serialVersionUID", type := .long, accessFlags := 26, slot := 0, constantValue := 0 }, { name := "COMPACT_STRINGS", type := .boolean, accessFlags := 24, slot := 1, constantValue := 0 }, { name := "serialPersistentFields", type := (.array (.object "java/io/ObjectStreamField")), accessFlags := 26, slot := 2, constantValue := 0 }, { name := "REPL", type := .char, accessFlags := 26, slot := 3, constantValue := 0 }, { name := "CASE_INSENSITIVE_ORDER", type := (.object "java/util/Comparator"), accessFlags := 25, slot := 4, constantValue := 0 }, { name := "LATIN1", type := .byte, accessFlags := 24, slot := 5, constantValue := 0 }, { name := "UTF16", type := .byte, accessFlags := 24, slot := 6, constantValue := 0 }]
  methods := #[k7m0, k7m1, k7m2, k7m3, k7m4, k7m5]
  instanceTypes := #[(.array .byte), .byte, .int, .boolean]
  staticTypes := #[.long, .boolean, (.array (.object "java/io/ObjectStreamField")), .char, (.object "java/util/Comparator"), .byte, .byte]
  resolved := Array.replicate 1451 none
  statics := some 0 }

def pool8 : Array CpInfo := pool [(3, .class_ 4), (0, u "java/lang/String"), (1, .class_ 8), (1, u "java/lang/Object"), (0, u "<init>"), (0, u "()V"), (0, .methodref 12 13), (0, .class_ 14), (0, .nameAndType 15 16), (0, u "java/lang/StringUTF16"), (0, u "newBytesLength"), (0, u "(I)I"), (3, .integer 1073741823), (23, .fieldref 12 45), (0, .nameAndType 46 47), (0, u "$assertionsDisabled"), (0, u "Z"), (0, .methodref 12 49), (0, .nameAndType 50 51), (0, u "length"), (0, u "([B)I"), (7, .fieldref 12 60), (0, .nameAndType 61 62), (0, u "HI_BYTE_SHIFT"), (0, u "I"), (0, .fieldref 12 64), (0, .nameAndType 65 62), (0, u "LO_BYTE_SHIFT"), (1, .methodref 12 68), (0, .nameAndType 69 70), (0, u "checkIndex"), (0, u "(I[B)V"), (0, .methodref 12 72), (0, .nameAndType 73 74), (0, u "getChar"), (0, u "([BI)C"), (32, .methodref 12 108), (0, .nameAndType 109 110), (0, u "newBytesFor"), (0, u "(I)[B"), (0, .methodref 12 112), (0, .nameAndType 113 114), (0, u "putChar"), (0, u "([BII)V"), (0, .methodref 12 116), (0, .nameAndType 117 118), (0, u "compress"), (0, u "([CI[BII)I"), (0, .methodref 12 120), (0, .nameAndType 121 122), (0, u "toBytes"), (0, u "([CII)[B"), (138, u "coderFromArrayLen"), (0, u "([BI)B"), (106, .class_ 371), (1, u "java/lang/StringUTF16$LinesSpliterator"), (20, u "charAt"), (21, .methodref 3 415), (0, .nameAndType 69 416), (0, u "(II)V"), (13, u "MAX_LENGTH"), (196, .class_ 628), (0, u "java/lang/StringUTF16$CodePointsSpliterator"), (0, .class_ 630), (0, u "java/lang/StringUTF16$CharsSpliterator")] 4

def k8m0 : Method := { name := "<init>", desc := "()V", sig := { parameters := [], returnType := none }, accessFlags := 0, code := none }
def k8c1 : Code := { maxStack := 1, maxLocals := 1, code := jdk_52_method_2_code, exceptionTable := #[], attributes := #[] }
def k8m1 : Method := { name := "newBytesFor", desc := "(I)[B", sig := { parameters := [.int], returnType := some (.array .byte) }, accessFlags := 9, code := some k8c1 }
def k8c2 : Code := { maxStack := 4, maxLocals := 1, code := jdk_52_method_3_code, exceptionTable := #[], attributes := #[] }
def k8m2 : Method := { name := "newBytesLength", desc := "(I)I", sig := { parameters := [.int], returnType := some .int }, accessFlags := 9, code := some k8c2 }
def k8c3 : Code := { maxStack := 4, maxLocals := 3, code := jdk_52_method_4_code, exceptionTable := #[], attributes := #[] }
def k8m3 : Method := { name := "putChar", desc := "([BII)V", sig := { parameters := [(.array .byte), .int, .int], returnType := none }, accessFlags := 8, code := some k8c3 }
def k8c4 : Code := { maxStack := 3, maxLocals := 2, code := jdk_52_method_5_code, exceptionTable := #[], attributes := #[] }
def k8m4 : Method := { name := "getChar", desc := "([BI)C", sig := { parameters := [(.array .byte), .int], returnType := some .char }, accessFlags := 8, code := some k8c4 }
def k8c5 : Code := { maxStack := 2, maxLocals := 1, code := jdk_52_method_6_code, exceptionTable := #[], attributes := #[] }
def k8m5 : Method := { name := "length", desc := "([B)I", sig := { parameters := [(.array .byte)], returnType := some .int }, accessFlags := 9, code := some k8c5 }
def k8c6 : Code := { maxStack := 4, maxLocals := 5, code := jdk_52_method_14_code, exceptionTable := #[], attributes := #[] }
def k8m6 : Method := { name := "toBytes", desc := "([CII)[B", sig := { parameters := [(.array .char), .int, .int], returnType := some (.array .byte) }, accessFlags := 9, code := some k8c6 }
def k8c7 : Code := { maxStack := 2, maxLocals := 2, code := jdk_52_method_15_code, exceptionTable := #[], attributes := #[] }
def k8m7 : Method := { name := "coderFromArrayLen", desc := "([BI)B", sig := { parameters := [(.array .byte), .int], returnType := some .byte }, accessFlags := 8, code := some k8c7 }
def k8c8 : Code := { maxStack := 5, maxLocals := 6, code := jdk_52_method_16_code, exceptionTable := #[], attributes := #[] }
def k8m8 : Method := { name := "compress", desc := "([CII)[B", sig := { parameters := [(.array .char), .int, .int], returnType := some (.array .byte) }, accessFlags := 9, code := some k8c8 }
def k8c9 : Code := { maxStack := 3, maxLocals := 7, code := jdk_52_method_21_code, exceptionTable := #[], attributes := #[] }
def k8m9 : Method := { name := "compress", desc := "([CI[BII)I", sig := { parameters := [(.array .char), .int, (.array .byte), .int, .int], returnType := some .int }, accessFlags := 9, code := some k8c9 }
def k8c10 : Code := { maxStack := 2, maxLocals := 2, code := jdk_52_method_83_code, exceptionTable := #[], attributes := #[] }
def k8m10 : Method := { name := "charAt", desc := "([BI)C", sig := { parameters := [(.array .byte), .int], returnType := some .char }, accessFlags := 9, code := some k8c10 }
def k8c11 : Code := { maxStack := 2, maxLocals := 2, code := jdk_52_method_91_code, exceptionTable := #[], attributes := #[] }
def k8m11 : Method := { name := "checkIndex", desc := "(I[B)V", sig := { parameters := [.int, (.array .byte)], returnType := none }, accessFlags := 9, code := some k8c11 }
/-- java/lang/StringUTF16 -/
def k8 : Class := { plain "java/lang/StringUTF16" (some 0) with
  accessFlags := 48
  interfaces := #[]
  cf := some (fileOf pool8 12 #[.nestMembers #[627, 629, 369]] #[{ accessFlags := 0, nameIndex := 9, descriptorIndex := 10, attributes := #[] }, { accessFlags := 9, nameIndex := 109, descriptorIndex := 110, attributes := #[] }, { accessFlags := 9, nameIndex := 15, descriptorIndex := 16, attributes := #[] }, { accessFlags := 8, nameIndex := 113, descriptorIndex := 114, attributes := #[] }, { accessFlags := 8, nameIndex := 73, descriptorIndex := 74, attributes := #[] }, { accessFlags := 9, nameIndex := 50, descriptorIndex := 51, attributes := #[] }, { accessFlags := 9, nameIndex := 121, descriptorIndex := 122, attributes := #[] }, { accessFlags := 8, nameIndex := 261, descriptorIndex := 262, attributes := #[] }, { accessFlags := 9, nameIndex := 117, descriptorIndex := 122, attributes := #[] }, { accessFlags := 9, nameIndex := 117, descriptorIndex := 118, attributes := #[] }, { accessFlags := 9, nameIndex := 392, descriptorIndex := 74, attributes := #[] }, { accessFlags := 9, nameIndex := 69, descriptorIndex := 70, attributes := #[] }] 48 6 #[] #[{ accessFlags := 26, nameIndex := 61, descriptorIndex := 62, attributes := #[] }, { accessFlags := 26, nameIndex := 65, descriptorIndex := 62, attributes := #[] }, { accessFlags := 24, nameIndex := 430, descriptorIndex := 62, attributes := #[] }, { accessFlags := 4120, nameIndex := 46, descriptorIndex := 47, attributes := #[] }])
  fields := #[{ name := "HI_BYTE_SHIFT", type := .int, accessFlags := 26, slot := 0, constantValue := 0 }, { name := "LO_BYTE_SHIFT", type := .int, accessFlags := 26, slot := 1, constantValue := 0 }, { name := "MAX_LENGTH", type := .int, accessFlags := 24, slot := 2, constantValue := 0 }, { name := "$assertionsDisabled", type := .boolean, accessFlags := 4120, slot := 3, constantValue := 0 }]
  methods := #[k8m0, k8m1, k8m2, k8m3, k8m4, k8m5, k8m6, k8m7, k8m8, k8m9, k8m10, k8m11]
  instanceTypes := #[]
  staticTypes := #[.int, .int, .int, .boolean]
  resolved := Array.replicate 635 none
  statics := some 1 }

def pool9 : Array CpInfo := pool [(2, .class_ 4), (1, u "java/lang/Enum"), (0, u "name"), (0, u "Ljava/lang/String;"), (0, .fieldref 2 8), (0, .nameAndType 9 10), (0, u "ordinal"), (0, u "I"), (1, .class_ 14), (1, u "java/lang/Object"), (4, u "hash"), (86, .class_ 108), (1, u "java/lang/Enum$EnumDesc"), (2, .class_ 112), (0, u "java/lang/constant/Constable"), (0, .class_ 114), (0, u "java/lang/Comparable"), (0, .class_ 116), (0, u "java/io/Serializable"), (9, u "()I")] 77

def k9c0 : Code := { maxStack := 1, maxLocals := 1, code := jdk_37_method_2_code, exceptionTable := #[], attributes := #[] }
def k9m0 : Method := { name := "ordinal", desc := "()I", sig := { parameters := [], returnType := some .int }, accessFlags := 17, code := some k9c0 }
/-- java/lang/Enum -/
def k9 : Class := { plain "java/lang/Enum" (some 0) with
  accessFlags := 1057
  interfaces := #[5, 3, 2]
  cf := some (fileOf pool9 2 #[.nestMembers #[106]] #[{ accessFlags := 17, nameIndex := 9, descriptorIndex := 126, attributes := #[] }] 1057 12 #[111, 113, 115] #[{ accessFlags := 18, nameIndex := 5, descriptorIndex := 6, attributes := #[] }, { accessFlags := 18, nameIndex := 9, descriptorIndex := 10, attributes := #[] }, { accessFlags := 2, nameIndex := 19, descriptorIndex := 10, attributes := #[] }])
  fields := #[{ name := "name", type := (.object "java/lang/String"), accessFlags := 18, slot := 0, constantValue := 0 }, { name := "ordinal", type := .int, accessFlags := 18, slot := 1, constantValue := 0 }, { name := "hash", type := .int, accessFlags := 2, slot := 2, constantValue := 0 }]
  methods := #[k9m0]
  instanceTypes := #[(.object "java/lang/String"), .int, .int]
  staticTypes := #[]
  resolved := Array.replicate 204 none
  statics := none }

def pool10 : Array CpInfo := pool [(1, .class_ 2), (0, u "com/example/bogenwerk/bogenwerk/HeaderChecks$Characters"), (2, u "DIGITS"), (0, u "Lcom/example/bogenwerk/bogenwerk/HeaderChecks$Characters;"), (2, u "LETTERS_OR_DIGITS"), (2, u "$VALUES"), (0, u "[Lcom/example/bogenwerk/bogenwerk/HeaderChecks$Characters;"), (6, .class_ 22), (1, u "java/lang/Enum"), (7, .class_ 32), (1, u "java/lang/String"), (1, u "()I"), (2, u "fill"), (0, u "(Ljava/lang/String;II)Z"), (0, .methodref 30 40), (0, .nameAndType 41 42), (0, u "charAt"), (0, u "(I)C"), (0, .methodref 1 44), (0, .nameAndType 45 46), (0, u "holds"), (0, u "(C)Z"), (0, .methodref 1 48), (0, .nameAndType 49 34), (0, u "ordinal"), (26, .class_ 77), (0, u "com/example/bogenwerk/bogenwerk/HeaderChecks")] 2

def k10c0 : Code := { maxStack := 3, maxLocals := 5, code := prog_36_method_5_code, exceptionTable := #[], attributes := #[] }
def k10m0 : Method := { name := "fill", desc := "(Ljava/lang/String;II)Z", sig := { parameters := [(.object "java/lang/String"), .int, .int], returnType := some .boolean }, accessFlags := 0, code := some k10c0 }
def k10c1 : Code := { maxStack := 4, maxLocals := 3, code := prog_36_method_6_code, exceptionTable := #[], attributes := #[] }
def k10m1 : Method := { name := "holds", desc := "(C)Z", sig := { parameters := [.char], returnType := some .boolean }, accessFlags := 2, code := some k10c1 }
/-- com/example/bogenwerk/bogenwerk/HeaderChecks$Characters -/
def k10 : Class := { plain "com/example/bogenwerk/bogenwerk/HeaderChecks$Characters" (some 9) with
  accessFlags := 16432
  interfaces := #[]
  cf := some (fileOf pool10 1 #[.nestHost 76] #[{ accessFlags := 0, nameIndex := 37, descriptorIndex := 38, attributes := #[] }, { accessFlags := 2, nameIndex := 45, descriptorIndex := 46, attributes := #[] }] 16432 20 #[] #[{ accessFlags := 16409, nameIndex := 5, descriptorIndex := 6, attributes := #[] }, { accessFlags := 16409, nameIndex := 9, descriptorIndex := 6, attributes := #[] }, { accessFlags := 4122, nameIndex := 12, descriptorIndex := 13, attributes := #[] }])
  fields := #[{ name := "DIGITS", type := (.object "com/example/bogenwerk/bogenwerk/HeaderChecks$Characters"), accessFlags := 16409, slot := 0, constantValue := 0 }, { name := "LETTERS_OR_DIGITS", type := (.object "com/example/bogenwerk/bogenwerk/HeaderChecks$Characters"), accessFlags := 16409, slot := 1, constantValue := 0 }, { name := "$VALUES", type := (.array (.object "com/example/bogenwerk/bogenwerk/HeaderChecks$Characters")), accessFlags := 4122, slot := 2, constantValue := 0 }]
  methods := #[k10m0, k10m1]
  instanceTypes := #[(.object "java/lang/String"), .int, .int]
  staticTypes := #[(.object "com/example/bogenwerk/bogenwerk/HeaderChecks$Characters"), (.object "com/example/bogenwerk/bogenwerk/HeaderChecks$Characters"), (.array (.object "com/example/bogenwerk/bogenwerk/HeaderChecks$Characters"))]
  resolved := Array.replicate 80 none
  statics := some 2 }

def pool11 : Array CpInfo := pool [(2, .class_ 4), (1, u "java/lang/Object"), (0, u "<init>"), (0, u "()V"), (17, .class_ 26), (1, u "jdk/internal/util/Preconditions"), (6, u "checkIndex"), (21, .class_ 56), (0, u "jdk/internal/util/Preconditions$4"), (57, .class_ 115), (0, u "jdk/internal/util/Preconditions$1"), (7, u "SIOOBE_FORMATTER"), (0, u "Ljava/util/function/BiFunction;"), (0, .class_ 126), (0, u "jdk/internal/util/Preconditions$2"), (3, u "AIOOBE_FORMATTER"), (0, .class_ 132), (0, u "jdk/internal/util/Preconditions$3"), (3, u "IOOBE_FORMATTER"), (41, u "(IILjava/util/function/BiFunction;)I")] 15

def k11m0 : Method := { name := "<init>", desc := "()V", sig := { parameters := [], returnType := none }, accessFlags := 1, code := none }
def k11c1 : Code := { maxStack := 3, maxLocals := 3, code := jdk_41_method_11_code, exceptionTable := #[], attributes := #[] }
def k11m1 : Method := { name := "checkIndex", desc := "(IILjava/util/function/BiFunction;)I", sig := { parameters := [.int, .int, (.object "java/util/function/BiFunction")], returnType := some .int }, accessFlags := 9, code := some k11c1 }
/-- jdk/internal/util/Preconditions -/
def k11 : Class := { plain "jdk/internal/util/Preconditions" (some 0) with
  accessFlags := 33
  interfaces := #[]
  cf := some (fileOf pool11 24 #[.nestMembers #[55, 131, 125, 114]] #[{ accessFlags := 1, nameIndex := 5, descriptorIndex := 6, attributes := #[] }, { accessFlags := 9, nameIndex := 33, descriptorIndex := 178, attributes := #[] }] 33 2 #[] #[{ accessFlags := 25, nameIndex := 123, descriptorIndex := 124, attributes := #[] }, { accessFlags := 25, nameIndex := 130, descriptorIndex := 124, attributes := #[] }, { accessFlags := 25, nameIndex := 136, descriptorIndex := 124, attributes := #[] }])
  fields := #[{ name := "SIOOBE_FORMATTER", type := (.object "java/util/function/BiFunction"), accessFlags := 25, slot := 0, constantValue := 0 }, { name := "AIOOBE_FORMATTER", type := (.object "java/util/function/BiFunction"), accessFlags := 25, slot := 1, constantValue := 0 }, { name := "IOOBE_FORMATTER", type := (.object "java/util/function/BiFunction"), accessFlags := 25, slot := 2, constantValue := 0 }]
  methods := #[k11m0, k11m1]
  instanceTypes := #[]
  staticTypes := #[(.object "java/util/function/BiFunction"), (.object "java/util/function/BiFunction"), (.object "java/util/function/BiFunction")]
  resolved := Array.replicate 194 none
  statics := some 3 }

def pool12 : Array CpInfo := pool [(1, .class_ 2), (0, u "java/lang/String"), (1, .class_ 6), (1, u "java/lang/Object"), (0, u "<init>"), (0, u "()V"), (0, .methodref 1 10), (0, .nameAndType 11 12), (0, u "checkIndex"), (0, u "(II)V"), (1, .class_ 16), (1, u "java/lang/StringLatin1"), (36, u "([BI)C"), (67, u "$assertionsDisabled"), (0, u "Z"), (98, .class_ 223), (1, u "java/lang/StringLatin1$LinesSpliterator"), (28, u "charAt"), (137, .class_ 391), (0, u "java/lang/StringLatin1$CharsSpliterator")] 3

def k12m0 : Method := { name := "<init>", desc := "()V", sig := { parameters := [], returnType := none }, accessFlags := 0, code := none }
def k12c1 : Code := { maxStack := 2, maxLocals := 2, code := jdk_43_method_2_code, exceptionTable := #[], attributes := #[] }
def k12m1 : Method := { name := "charAt", desc := "([BI)C", sig := { parameters := [(.array .byte), .int], returnType := some .char }, accessFlags := 9, code := some k12c1 }
/-- java/lang/StringLatin1 -/
def k12 : Class := { plain "java/lang/StringLatin1" (some 0) with
  accessFlags := 48
  interfaces := #[]
  cf := some (fileOf pool12 14 #[.nestMembers #[390, 221]] #[{ accessFlags := 0, nameIndex := 7, descriptorIndex := 8, attributes := #[] }, { accessFlags := 9, nameIndex := 252, descriptorIndex := 53, attributes := #[] }] 48 4 #[] #[{ accessFlags := 4120, nameIndex := 121, descriptorIndex := 122, attributes := #[] }])
  fields := #[{ name := "$assertionsDisabled", type := .boolean, accessFlags := 4120, slot := 0, constantValue := 0 }]
  methods := #[k12m0, k12m1]
  instanceTypes := #[]
  staticTypes := #[.boolean]
  resolved := Array.replicate 395 none
  statics := none }

def pool13 : Array CpInfo := pool [(9, u "<init>"), (6, .class_ 18), (1, u "java/lang/Object"), (0, u "()V"), (1, .class_ 23), (1, u "jdk/internal/util/ArraysSupport"), (0, u "LOG2_ARRAY_LONG_INDEX_SCALE"), (0, u "I"), (2, u "U"), (0, u "Ljdk/internal/misc/Unsafe;"), (8, u "BIG_ENDIAN"), (0, u "Z"), (8, u "LOG2_BYTE_BIT_SIZE"), (4, u "LOG2_ARRAY_INT_INDEX_SCALE"), (54, u "JLA"), (0, u "Ljdk/internal/access/JavaLangAccess;"), (11, u "LOG2_ARRAY_BOOLEAN_INDEX_SCALE"), (9, u "LOG2_ARRAY_BYTE_INDEX_SCALE"), (5, u "LOG2_ARRAY_CHAR_INDEX_SCALE"), (5, u "LOG2_ARRAY_SHORT_INDEX_SCALE"), (18, u "LOG2_ARRAY_FLOAT_INDEX_SCALE"), (24, u "LOG2_ARRAY_DOUBLE_INDEX_SCALE"), (89, u "T_BOOLEAN"), (2, u "T_CHAR"), (1, u "T_FLOAT"), (1, u "T_DOUBLE"), (1, u "T_BYTE"), (1, u "T_SHORT"), (1, u "T_INT"), (1, u "T_LONG"), (1, u "SOFT_MAX_ARRAY_LENGTH")] 83

def k13m0 : Method := { name := "<init>", desc := "()V", sig := { parameters := [], returnType := none }, accessFlags := 2, code := none }
/-- jdk/internal/util/ArraysSupport -/
def k13 : Class := { plain "jdk/internal/util/ArraysSupport" (some 0) with
  accessFlags := 33
  interfaces := #[]
  cf := some (fileOf pool13 21 #[] #[{ accessFlags := 2, nameIndex := 9, descriptorIndex := 19, attributes := #[] }] 33 16 #[] #[{ accessFlags := 24, nameIndex := 28, descriptorIndex := 29, attributes := #[] }, { accessFlags := 26, nameIndex := 38, descriptorIndex := 39, attributes := #[] }, { accessFlags := 25, nameIndex := 121, descriptorIndex := 25, attributes := #[] }, { accessFlags := 25, nameIndex := 131, descriptorIndex := 25, attributes := #[] }, { accessFlags := 25, nameIndex := 137, descriptorIndex := 25, attributes := #[] }, { accessFlags := 25, nameIndex := 143, descriptorIndex := 25, attributes := #[] }, { accessFlags := 25, nameIndex := 53, descriptorIndex := 25, attributes := #[] }, { accessFlags := 25, nameIndex := 24, descriptorIndex := 25, attributes := #[] }, { accessFlags := 25, nameIndex := 162, descriptorIndex := 25, attributes := #[] }, { accessFlags := 25, nameIndex := 187, descriptorIndex := 25, attributes := #[] }, { accessFlags := 26, nameIndex := 48, descriptorIndex := 25, attributes := #[] }, { accessFlags := 25, nameIndex := 277, descriptorIndex := 25, attributes := #[] }, { accessFlags := 25, nameIndex := 280, descriptorIndex := 25, attributes := #[] }, { accessFlags := 25, nameIndex := 282, descriptorIndex := 25, attributes := #[] }, { accessFlags := 25, nameIndex := 284, descriptorIndex := 25, attributes := #[] }, { accessFlags := 25, nameIndex := 286, descriptorIndex := 25, attributes := #[] }, { accessFlags := 25, nameIndex := 288, descriptorIndex := 25, attributes := #[] }, { accessFlags := 25, nameIndex := 290, descriptorIndex := 25, attributes := #[] }, { accessFlags := 25, nameIndex := 292, descriptorIndex := 25, attributes := #[] }, { accessFlags := 26, nameIndex := 108, descriptorIndex := 109, attributes := #[] }, { accessFlags := 25, nameIndex := 294, descriptorIndex := 25, attributes := #[] }])
  fields := #[{ name := "U", type := (.object "jdk/internal/misc/Unsafe"), accessFlags := 24, slot := 0, constantValue := 0 }, { name := "BIG_ENDIAN", type := .boolean, accessFlags := 26, slot := 1, constantValue := 0 }, { name := "LOG2_ARRAY_BOOLEAN_INDEX_SCALE", type := .int, accessFlags := 25, slot := 2, constantValue := 0 }, { name := "LOG2_ARRAY_BYTE_INDEX_SCALE", type := .int, accessFlags := 25, slot := 3, constantValue := 0 }, { name := "LOG2_ARRAY_CHAR_INDEX_SCALE", type := .int, accessFlags := 25, slot := 4, constantValue := 0 }, { name := "LOG2_ARRAY_SHORT_INDEX_SCALE", type := .int, accessFlags := 25, slot := 5, constantValue := 0 }, { name := "LOG2_ARRAY_INT_INDEX_SCALE", type := .int, accessFlags := 25, slot := 6, constantValue := 0 }, { name := "LOG2_ARRAY_LONG_INDEX_SCALE", type := .int, accessFlags := 25, slot := 7, constantValue := 0 }, { name := "LOG2_ARRAY_FLOAT_INDEX_SCALE", type := .int, accessFlags := 25, slot := 8, constantValue := 0 }, { name := "LOG2_ARRAY_DOUBLE_INDEX_SCALE", type := .int, accessFlags := 25, slot := 9, constantValue := 0 }, { name := "LOG2_BYTE_BIT_SIZE", type := .int, accessFlags := 26, slot := 10, constantValue := 0 }, { name := "T_BOOLEAN", type := .int, accessFlags := 25, slot := 11, constantValue := 0 }, { name := "T_CHAR", type := .int, accessFlags := 25, slot := 12, constantValue := 0 }, { name := "T_FLOAT", type := .int, accessFlags := 25, slot := 13, constantValue := 0 }, { name := "T_DOUBLE", type := .int, accessFlags := 25, slot := 14, constantValue := 0 }, { name := "T_BYTE", type := .int, accessFlags := 25, slot := 15, constantValue := 0 }, { name := "T_SHORT", type := .int, accessFlags := 25, slot := 16, constantValue := 0 }, { name := "T_INT", type := .int, accessFlags := 25, slot := 17, constantValue := 0 }, { name := "T_LONG", type := .int, accessFlags := 25, slot := 18, constantValue := 0 }, { name := "JLA", type := (.object "jdk/internal/access/JavaLangAccess"), accessFlags := 26, slot := 19, constantValue := 0 }, { name := "SOFT_MAX_ARRAY_LENGTH", type := .int, accessFlags := 25, slot := 20, constantValue := 0 }]
  methods := #[k13m0]
  instanceTypes := #[]
  staticTypes := #[(.object "jdk/internal/misc/Unsafe"), .boolean, .int, .int, .int, .int, .int, .int, .int, .int, .int, .int, .int, .int, .int, .int, .int, .int, .int, (.object "jdk/internal/access/JavaLangAccess"), .int]
  resolved := Array.replicate 378 none
  statics := none }

def pool14 : Array CpInfo := pool [(1, u "java/lang/Cloneable"), (0, .class_ 1), (0, u "java/lang/Object"), (0, .class_ 3)] 3

/-- java/lang/Cloneable -/
def k14 : Class := { plain "java/lang/Cloneable" (some 0) with
  accessFlags := 1537
  interfaces := #[]
  cf := some (fileOf pool14 2 #[] #[] 1537 4 #[] #[])
  fields := #[]
  methods := #[]
  instanceTypes := #[]
  staticTypes := #[]
  resolved := Array.replicate 8 none
  statics := none }

/-- the primitive byte -/
def k15 : Class := { plain "byte" none with kind := .primitive 'B', accessFlags := 0x411 }
/-- [B -/
def k16 : Class := { plain "[B" (some 0) with kind := .array 15 .byte, interfaces := #[14, 2], accessFlags := 1041 }

/-- the primitive char -/
def k17 : Class := { plain "char" none with kind := .primitive 'C', accessFlags := 0x411 }
/-- [C -/
def k18 : Class := { plain "[C" (some 0) with kind := .array 17 .char, interfaces := #[14, 2], accessFlags := 1041 }

def heap : Heap := #[{ cls := 7, slots := #[.long 0, .int 1, .null, .int 0, .null, .int 0, .int 0], vm := .statics 7 },
  { cls := 8, slots := #[.int 0, .int 8, .int 0, .int 1], vm := .statics 8 },
  { cls := 10, slots := #[.ref 5, .ref 4, .null], vm := .statics 10 },
  { cls := 11, slots := #[.null, .null, .null], vm := .statics 11 },
  { cls := 10, slots := #[.null, .int 1, .int 0], vm := .none },
  { cls := 10, slots := #[.null, .int 0, .int 0], vm := .none }]
def classes : Array Class := #[k0, k1, k2, k3, k4, k5, k6, k7, k8, k9, k10, k11, k12, k13, k14, k15, k16, k17, k18]
def interned : List (Array UInt16 × Addr) := []
def slotsUsed : Nat := 23
def theMethod : MethodId := ⟨1, 3⟩
def args0 : Array Value := #[.int 49, .int 50, .int 51, .int 52, .int 3]
def aboutOver (below : List Frame) : State where
  vm := { classes := classes, interned := interned.toArray }
  heap := heap
  slotsUsed := slotsUsed
  threads := #[{ frames := .invoking theMethod args0 :: below }]
def below0 : List Frame := [.native { method := ⟨0, 0⟩, args := #[] }]
def about1 : State := aboutOver below0
def p0 : Program := .bare "" "" ""
def e0 : Env := launch0.env 0 0 0
theorem w_frames : about1.frames = Frame.invoking theMethod args0 :: below0 := rfl
set_option maxRecDepth 65536 in
theorem w_args : argsFit about1.vm theMethod args0 = true := by decide +kernel
set_option maxRecDepth 65536 in
theorem w_heap : heapFits about1 = true := by decide +kernel
set_option maxRecDepth 65536 in
theorem w_runnable : about1.curStatus? = some .runnable := by decide +kernel
set_option maxRecDepth 65536 in
theorem w_alone : about1.alone = true := by decide +kernel
set_option maxRecDepth 65536 in
theorem w_named : about1.methodNamed? x = some theMethod := by decide +kernel
set_option maxRecDepth 65536 in
theorem w_hears : about1.hears theMethod below0 = true := by decide +kernel
set_option maxRecDepth 65536 in
theorem w_ripe : about1.ripe theMethod args0 below0 = true := by decide +kernel
theorem w_running : about1.status = .running := rfl
set_option maxRecDepth 65536 in
theorem w_room : about1.hasRoom e0.platform room_1 = true :=
  launch0.hasRoom_least _ room_1 (by decide +kernel) (by decide +kernel) (by decide +kernel) (by decide +kernel) (by decide +kernel) (by decide +kernel)
theorem allAtoms_all (ts : List Jvm.Cond) (a : Array Jvm.Value) (st : Jvm.State) : (allAtoms ts).before a st = ts.all (fun c => c.before a st) := by
  induction ts with
  | nil => rfl
  | cons c t ih =>
    show (Jvm.Cond.and c (allAtoms t)).before a st = _
    rw [Jvm.Cond.before_and, ih, List.all_cons]
def words1 : List Jvm.Cond := Jvm.Cond.code x code maxLocals ret :: tables_1
/-- a 'code' word, met by the world's own term for the bytes: nothing is compared byte by byte -/
theorem code_word {y : MethodName} {bytes : ByteArray} {mx : Nat} {rt : Option FieldType} {a : Array Value} {s : State} {m : MethodId} {meth : Method} {c : Code} (h1 : s.methodNamed? y = some m) (h2 : s.vm.method? m = some meth) (h3 : meth.code = some c) (h4 : c.code = bytes)
    (h5 : (c.maxLocals == mx && c.exceptionTable.isEmpty && decide (c.maxStack ≤ mostOperands) && decide (meth.sig.returnType = rt) && !meth.locks && decide (parseMethodDescriptor y.desc = some meth.sig)) = true) : (Jvm.Cond.code y bytes mx rt).before a s = true := by
  simp only [Bool.and_eq_true, beq_iff_eq, Bool.not_eq_true', decide_eq_true_eq] at h5
  obtain ⟨⟨⟨⟨⟨g1, g2⟩, g3⟩, g4⟩, g5⟩, g6⟩ := h5
  simp [Cond.before, Cond.holds, Cond.value, h1, h2, h3, h4, g1, g2, g3, g4, g5, g6]
def isCode : Jvm.Cond → Bool
  | .code _ _ _ _ => true
  | _ => false
theorem all_split {L : List Jvm.Cond} {P : Jvm.Cond → Bool} (h1 : L.all (fun c => isCode c || P c) = true) (h2 : ∀ c ∈ L.filter isCode, P c = true) : L.all P = true := by
  refine List.all_eq_true.mpr fun c hc => ?_
  have h := List.all_eq_true.mp h1 c hc
  rcases Bool.eq_false_or_eq_true (isCode c) with hi | hi
  · exact h2 c (List.mem_filter.mpr ⟨hc, hi⟩)
  · simpa [hi] using h
set_option maxRecDepth 65536 in
theorem w_c0 : (Jvm.Cond.code x code maxLocals ret).before args0 about1 = true := code_word (m := ⟨1, 3⟩) (meth := k1m3) (c := k1c3) (by decide +kernel) rfl rfl rfl (by decide +kernel)
set_option maxRecDepth 65536 in
theorem w_c1 : (Jvm.Cond.code ({ cls := "java/lang/String", name := "<init>", desc := "([C)V" } : Jvm.MethodName) jdk_42_method_3_code (2 : Nat) (Option.none : Option Jvm.ClassFile.FieldType)).before args0 about1 = true := code_word (m := ⟨7, 1⟩) (meth := k7m1) (c := k7c1) (by decide +kernel) rfl rfl rfl (by decide +kernel)
set_option maxRecDepth 65536 in
theorem w_c2 : (Jvm.Cond.code ({ cls := "java/lang/String", name := "<init>", desc := "([CIILjava/lang/Void;)V" } : Jvm.MethodName) jdk_42_method_149_code (6 : Nat) (Option.none : Option Jvm.ClassFile.FieldType)).before args0 about1 = true := code_word (m := ⟨7, 3⟩) (meth := k7m3) (c := k7c3) (by decide +kernel) rfl rfl rfl (by decide +kernel)
set_option maxRecDepth 65536 in
theorem w_c3 : (Jvm.Cond.code ({ cls := "java/lang/Object", name := "<init>", desc := "()V" } : Jvm.MethodName) object_method_1_code (1 : Nat) (Option.none : Option Jvm.ClassFile.FieldType)).before args0 about1 = true := code_word (m := ⟨0, 0⟩) (meth := k0m0) (c := k0c0) (by decide +kernel) rfl rfl rfl (by decide +kernel)
set_option maxRecDepth 65536 in
theorem w_c4 : (Jvm.Cond.code ({ cls := "java/lang/StringUTF16", name := "compress", desc := "([CII)[B" } : Jvm.MethodName) jdk_52_method_16_code (6 : Nat) (Option.some (Jvm.ClassFile.FieldType.array Jvm.ClassFile.FieldType.byte))).before args0 about1 = true := code_word (m := ⟨8, 8⟩) (meth := k8m8) (c := k8c8) (by decide +kernel) rfl rfl rfl (by decide +kernel)
set_option maxRecDepth 65536 in
theorem w_c5 : (Jvm.Cond.code ({ cls := "java/lang/StringUTF16", name := "compress", desc := "([CI[BII)I" } : Jvm.MethodName) jdk_52_method_21_code (7 : Nat) (Option.some Jvm.ClassFile.FieldType.int)).before args0 about1 = true := code_word (m := ⟨8, 9⟩) (meth := k8m9) (c := k8c9) (by decide +kernel) rfl rfl rfl (by decide +kernel)
set_option maxRecDepth 65536 in
theorem w_c6 : (Jvm.Cond.code ({ cls := "java/lang/StringUTF16", name := "coderFromArrayLen", desc := "([BI)B" } : Jvm.MethodName) jdk_52_method_15_code (2 : Nat) (Option.some Jvm.ClassFile.FieldType.byte)).before args0 about1 = true := code_word (m := ⟨8, 7⟩) (meth := k8m7) (c := k8c7) (by decide +kernel) rfl rfl rfl (by decide +kernel)
set_option maxRecDepth 65536 in
theorem w_c7 : (Jvm.Cond.code ({ cls := "com/example/bogenwerk/bogenwerk/HeaderChecks$Characters", name := "fill", desc := "(Ljava/lang/String;II)Z" } : Jvm.MethodName) prog_36_method_5_code (5 : Nat) (Option.some Jvm.ClassFile.FieldType.boolean)).before args0 about1 = true := code_word (m := ⟨10, 0⟩) (meth := k10m0) (c := k10c0) (by decide +kernel) rfl rfl rfl (by decide +kernel)
set_option maxRecDepth 65536 in
theorem w_c8 : (Jvm.Cond.code ({ cls := "com/example/bogenwerk/bogenwerk/CharactersFillPinLaw", name := "covered", desc := "(IIIZC)Z" } : Jvm.MethodName) method_3_code (5 : Nat) (Option.some Jvm.ClassFile.FieldType.boolean)).before args0 about1 = true := code_word (m := ⟨1, 2⟩) (meth := k1m2) (c := k1c2) (by decide +kernel) rfl rfl rfl (by decide +kernel)
set_option maxRecDepth 65536 in
theorem w_c9 : (Jvm.Cond.code ({ cls := "java/lang/StringUTF16", name := "toBytes", desc := "([CII)[B" } : Jvm.MethodName) jdk_52_method_14_code (5 : Nat) (Option.some (Jvm.ClassFile.FieldType.array Jvm.ClassFile.FieldType.byte))).before args0 about1 = true := code_word (m := ⟨8, 6⟩) (meth := k8m6) (c := k8c6) (by decide +kernel) rfl rfl rfl (by decide +kernel)
set_option maxRecDepth 65536 in
theorem w_c10 : (Jvm.Cond.code ({ cls := "java/lang/StringUTF16", name := "newBytesFor", desc := "(I)[B" } : Jvm.MethodName) jdk_52_method_2_code (1 : Nat) (Option.some (Jvm.ClassFile.FieldType.array Jvm.ClassFile.FieldType.byte))).before args0 about1 = true := code_word (m := ⟨8, 1⟩) (meth := k8m1) (c := k8c1) (by decide +kernel) rfl rfl rfl (by decide +kernel)
set_option maxRecDepth 65536 in
theorem w_c11 : (Jvm.Cond.code ({ cls := "java/lang/StringUTF16", name := "newBytesLength", desc := "(I)I" } : Jvm.MethodName) jdk_52_method_3_code (1 : Nat) (Option.some Jvm.ClassFile.FieldType.int)).before args0 about1 = true := code_word (m := ⟨8, 2⟩) (meth := k8m2) (c := k8c2) (by decide +kernel) rfl rfl rfl (by decide +kernel)
set_option maxRecDepth 65536 in
theorem w_c12 : (Jvm.Cond.code ({ cls := "java/lang/StringUTF16", name := "putChar", desc := "([BII)V" } : Jvm.MethodName) jdk_52_method_4_code (3 : Nat) (Option.none : Option Jvm.ClassFile.FieldType)).before args0 about1 = true := code_word (m := ⟨8, 3⟩) (meth := k8m3) (c := k8c3) (by decide +kernel) rfl rfl rfl (by decide +kernel)
set_option maxRecDepth 65536 in
theorem w_c13 : (Jvm.Cond.code ({ cls := "java/lang/StringUTF16", name := "getChar", desc := "([BI)C" } : Jvm.MethodName) jdk_52_method_5_code (2 : Nat) (Option.some Jvm.ClassFile.FieldType.char)).before args0 about1 = true := code_word (m := ⟨8, 4⟩) (meth := k8m4) (c := k8c4) (by decide +kernel) rfl rfl rfl (by decide +kernel)
set_option maxRecDepth 65536 in
theorem w_c14 : (Jvm.Cond.code ({ cls := "java/lang/String", name := "charAt", desc := "(I)C" } : Jvm.MethodName) jdk_42_method_56_code (2 : Nat) (Option.some Jvm.ClassFile.FieldType.char)).before args0 about1 = true := code_word (m := ⟨7, 2⟩) (meth := k7m2) (c := k7c2) (by decide +kernel) rfl rfl rfl (by decide +kernel)
set_option maxRecDepth 65536 in
theorem w_c15 : (Jvm.Cond.code ({ cls := "java/lang/String", name := "isLatin1", desc := "()Z" } : Jvm.MethodName) jdk_42_method_154_code (1 : Nat) (Option.some Jvm.ClassFile.FieldType.boolean)).before args0 about1 = true := code_word (m := ⟨7, 4⟩) (meth := k7m4) (c := k7c4) (by decide +kernel) rfl rfl rfl (by decide +kernel)
set_option maxRecDepth 65536 in
theorem w_c16 : (Jvm.Cond.code ({ cls := "java/lang/StringUTF16", name := "charAt", desc := "([BI)C" } : Jvm.MethodName) jdk_52_method_83_code (2 : Nat) (Option.some Jvm.ClassFile.FieldType.char)).before args0 about1 = true := code_word (m := ⟨8, 10⟩) (meth := k8m10) (c := k8c10) (by decide +kernel) rfl rfl rfl (by decide +kernel)
set_option maxRecDepth 65536 in
theorem w_c17 : (Jvm.Cond.code ({ cls := "java/lang/StringUTF16", name := "checkIndex", desc := "(I[B)V" } : Jvm.MethodName) jdk_52_method_91_code (2 : Nat) (Option.none : Option Jvm.ClassFile.FieldType)).before args0 about1 = true := code_word (m := ⟨8, 11⟩) (meth := k8m11) (c := k8c11) (by decide +kernel) rfl rfl rfl (by decide +kernel)
set_option maxRecDepth 65536 in
theorem w_c18 : (Jvm.Cond.code ({ cls := "java/lang/StringUTF16", name := "length", desc := "([B)I" } : Jvm.MethodName) jdk_52_method_6_code (1 : Nat) (Option.some Jvm.ClassFile.FieldType.int)).before args0 about1 = true := code_word (m := ⟨8, 5⟩) (meth := k8m5) (c := k8c5) (by decide +kernel) rfl rfl rfl (by decide +kernel)
set_option maxRecDepth 65536 in
theorem w_c19 : (Jvm.Cond.code ({ cls := "java/lang/String", name := "checkIndex", desc := "(II)V" } : Jvm.MethodName) jdk_42_method_155_code (2 : Nat) (Option.none : Option Jvm.ClassFile.FieldType)).before args0 about1 = true := code_word (m := ⟨7, 5⟩) (meth := k7m5) (c := k7c5) (by decide +kernel) rfl rfl rfl (by decide +kernel)
set_option maxRecDepth 65536 in
theorem w_c20 : (Jvm.Cond.code ({ cls := "jdk/internal/util/Preconditions", name := "checkIndex", desc := "(IILjava/util/function/BiFunction;)I" } : Jvm.MethodName) jdk_41_method_11_code (3 : Nat) (Option.some Jvm.ClassFile.FieldType.int)).before args0 about1 = true := code_word (m := ⟨11, 1⟩) (meth := k11m1) (c := k11c1) (by decide +kernel) rfl rfl rfl (by decide +kernel)
set_option maxRecDepth 65536 in
theorem w_c21 : (Jvm.Cond.code ({ cls := "com/example/bogenwerk/bogenwerk/HeaderChecks$Characters", name := "holds", desc := "(C)Z" } : Jvm.MethodName) prog_36_method_6_code (3 : Nat) (Option.some Jvm.ClassFile.FieldType.boolean)).before args0 about1 = true := code_word (m := ⟨10, 1⟩) (meth := k10m1) (c := k10c1) (by decide +kernel) rfl rfl rfl (by decide +kernel)
set_option maxRecDepth 65536 in
theorem w_c22 : (Jvm.Cond.code ({ cls := "java/lang/Enum", name := "ordinal", desc := "()I" } : Jvm.MethodName) jdk_37_method_2_code (1 : Nat) (Option.some Jvm.ClassFile.FieldType.int)).before args0 about1 = true := code_word (m := ⟨9, 0⟩) (meth := k9m0) (c := k9c0) (by decide +kernel) rfl rfl rfl (by decide +kernel)
set_option maxRecDepth 65536 in
theorem w_c23 : (Jvm.Cond.code ({ cls := "com/example/bogenwerk/bogenwerk/CharactersFillPinLaw", name := "inSet", desc := "(ZC)Z" } : Jvm.MethodName) method_2_code (2 : Nat) (Option.some Jvm.ClassFile.FieldType.boolean)).before args0 about1 = true := code_word (m := ⟨1, 1⟩) (meth := k1m1) (c := k1c1) (by decide +kernel) rfl rfl rfl (by decide +kernel)
set_option maxRecDepth 65536 in
theorem w_c24 : (Jvm.Cond.code ({ cls := "java/lang/StringLatin1", name := "charAt", desc := "([BI)C" } : Jvm.MethodName) jdk_43_method_2_code (2 : Nat) (Option.some Jvm.ClassFile.FieldType.char)).before args0 about1 = true := code_word (m := ⟨12, 1⟩) (meth := k12m1) (c := k12c1) (by decide +kernel) rfl rfl rfl (by decide +kernel)
def codes1 : List Jvm.Cond := [Jvm.Cond.code x code maxLocals ret, Jvm.Cond.code ({ cls := "java/lang/String", name := "<init>", desc := "([C)V" } : Jvm.MethodName) jdk_42_method_3_code (2 : Nat) (Option.none : Option Jvm.ClassFile.FieldType), Jvm.Cond.code ({ cls := "java/lang/String", name := "<init>", desc := "([CIILjava/lang/Void;)V" } : Jvm.MethodName) jdk_42_method_149_code (6 : Nat) (Option.none : Option Jvm.ClassFile.FieldType), Jvm.Cond.code ({ cls := "java/lang/Object", name := "<init>", desc := "()V" } : Jvm.MethodName) object_method_1_code (1 : Nat) (Option.none : Option Jvm.ClassFile.FieldType), Jvm.Cond.code ({ cls := "java/lang/StringUTF16", name := "compress", desc := "([CII)[B" } : Jvm.MethodName) jdk_52_method_16_code (6 : Nat) (Option.some (Jvm.ClassFile.FieldType.array Jvm.ClassFile.FieldType.byte)), Jvm.Cond.code ({ cls := "java/lang/StringUTF16", name := "compress", desc := "([CI[BII)I" } : Jvm.MethodName) jdk_52_method_21_code (7 : Nat) (Option.some Jvm.ClassFile.FieldType.int), Jvm.Cond.code ({ cls := "java/lang/StringUTF16", name := "coderFromArrayLen", desc := "([BI)B" } : Jvm.MethodName) jdk_52_method_15_code (2 : Nat) (Option.some Jvm.ClassFile.FieldType.byte), Jvm.Cond.code ({ cls := "com/example/bogenwerk/bogenwerk/HeaderChecks$Characters", name := "fill", desc := "(Ljava/lang/String;II)Z" } : Jvm.MethodName) prog_36_method_5_code (5 : Nat) (Option.some Jvm.ClassFile.FieldType.boolean), Jvm.Cond.code ({ cls := "com/example/bogenwerk/bogenwerk/CharactersFillPinLaw", name := "covered", desc := "(IIIZC)Z" } : Jvm.MethodName) method_3_code (5 : Nat) (Option.some Jvm.ClassFile.FieldType.boolean), Jvm.Cond.code ({ cls := "java/lang/StringUTF16", name := "toBytes", desc := "([CII)[B" } : Jvm.MethodName) jdk_52_method_14_code (5 : Nat) (Option.some (Jvm.ClassFile.FieldType.array Jvm.ClassFile.FieldType.byte)), Jvm.Cond.code ({ cls := "java/lang/StringUTF16", name := "newBytesFor", desc := "(I)[B" } : Jvm.MethodName) jdk_52_method_2_code (1 : Nat) (Option.some (Jvm.ClassFile.FieldType.array Jvm.ClassFile.FieldType.byte)), Jvm.Cond.code ({ cls := "java/lang/StringUTF16", name := "newBytesLength", desc := "(I)I" } : Jvm.MethodName) jdk_52_method_3_code (1 : Nat) (Option.some Jvm.ClassFile.FieldType.int), Jvm.Cond.code ({ cls := "java/lang/StringUTF16", name := "putChar", desc := "([BII)V" } : Jvm.MethodName) jdk_52_method_4_code (3 : Nat) (Option.none : Option Jvm.ClassFile.FieldType), Jvm.Cond.code ({ cls := "java/lang/StringUTF16", name := "getChar", desc := "([BI)C" } : Jvm.MethodName) jdk_52_method_5_code (2 : Nat) (Option.some Jvm.ClassFile.FieldType.char), Jvm.Cond.code ({ cls := "java/lang/String", name := "charAt", desc := "(I)C" } : Jvm.MethodName) jdk_42_method_56_code (2 : Nat) (Option.some Jvm.ClassFile.FieldType.char), Jvm.Cond.code ({ cls := "java/lang/String", name := "isLatin1", desc := "()Z" } : Jvm.MethodName) jdk_42_method_154_code (1 : Nat) (Option.some Jvm.ClassFile.FieldType.boolean), Jvm.Cond.code ({ cls := "java/lang/StringUTF16", name := "charAt", desc := "([BI)C" } : Jvm.MethodName) jdk_52_method_83_code (2 : Nat) (Option.some Jvm.ClassFile.FieldType.char), Jvm.Cond.code ({ cls := "java/lang/StringUTF16", name := "checkIndex", desc := "(I[B)V" } : Jvm.MethodName) jdk_52_method_91_code (2 : Nat) (Option.none : Option Jvm.ClassFile.FieldType), Jvm.Cond.code ({ cls := "java/lang/StringUTF16", name := "length", desc := "([B)I" } : Jvm.MethodName) jdk_52_method_6_code (1 : Nat) (Option.some Jvm.ClassFile.FieldType.int), Jvm.Cond.code ({ cls := "java/lang/String", name := "checkIndex", desc := "(II)V" } : Jvm.MethodName) jdk_42_method_155_code (2 : Nat) (Option.none : Option Jvm.ClassFile.FieldType), Jvm.Cond.code ({ cls := "jdk/internal/util/Preconditions", name := "checkIndex", desc := "(IILjava/util/function/BiFunction;)I" } : Jvm.MethodName) jdk_41_method_11_code (3 : Nat) (Option.some Jvm.ClassFile.FieldType.int), Jvm.Cond.code ({ cls := "com/example/bogenwerk/bogenwerk/HeaderChecks$Characters", name := "holds", desc := "(C)Z" } : Jvm.MethodName) prog_36_method_6_code (3 : Nat) (Option.some Jvm.ClassFile.FieldType.boolean), Jvm.Cond.code ({ cls := "java/lang/Enum", name := "ordinal", desc := "()I" } : Jvm.MethodName) jdk_37_method_2_code (1 : Nat) (Option.some Jvm.ClassFile.FieldType.int), Jvm.Cond.code ({ cls := "com/example/bogenwerk/bogenwerk/CharactersFillPinLaw", name := "inSet", desc := "(ZC)Z" } : Jvm.MethodName) method_2_code (2 : Nat) (Option.some Jvm.ClassFile.FieldType.boolean), Jvm.Cond.code ({ cls := "java/lang/StringLatin1", name := "charAt", desc := "([BI)C" } : Jvm.MethodName) jdk_43_method_2_code (2 : Nat) (Option.some Jvm.ClassFile.FieldType.char)]
set_option maxRecDepth 65536 in
theorem codes_eq : words1.filter isCode = codes1 := rfl
theorem w_codes : ∀ c ∈ words1.filter isCode, c.before args0 about1 = true := by
  rw [codes_eq]
  intro c hc
  simp only [codes1, List.mem_cons, List.not_mem_nil, or_false] at hc
  rcases hc with rfl | rfl | rfl | rfl | rfl | rfl | rfl | rfl | rfl | rfl | rfl | rfl | rfl | rfl | rfl | rfl | rfl | rfl | rfl | rfl | rfl | rfl | rfl | rfl | rfl
  · exact w_c0
  · exact w_c1
  · exact w_c2
  · exact w_c3
  · exact w_c4
  · exact w_c5
  · exact w_c6
  · exact w_c7
  · exact w_c8
  · exact w_c9
  · exact w_c10
  · exact w_c11
  · exact w_c12
  · exact w_c13
  · exact w_c14
  · exact w_c15
  · exact w_c16
  · exact w_c17
  · exact w_c18
  · exact w_c19
  · exact w_c20
  · exact w_c21
  · exact w_c22
  · exact w_c23
  · exact w_c24
set_option maxRecDepth 65536 in
theorem w_t1 : (words1.take 24).all (fun c => isCode c || c.before args0 about1) = true := by decide +kernel
set_option maxRecDepth 65536 in
theorem w_t2 : ((words1.drop 24).take 24).all (fun c => isCode c || c.before args0 about1) = true := by decide +kernel
set_option maxRecDepth 65536 in
theorem w_t3 : (((words1.drop 24).drop 24).take 24).all (fun c => isCode c || c.before args0 about1) = true := by decide +kernel
set_option maxRecDepth 65536 in
theorem w_t4 : ((((words1.drop 24).drop 24).drop 24).take 24).all (fun c => isCode c || c.before args0 about1) = true := by decide +kernel
set_option maxRecDepth 65536 in
theorem w_t5 : ((((words1.drop 24).drop 24).drop 24).drop 24).all (fun c => isCode c || c.before args0 about1) = true := by decide +kernel
theorem w_tables : (allAtoms (Jvm.Cond.code x code maxLocals ret :: tables_1)).before args0 about1 = true := by
  rw [allAtoms_all]
  show words1.all (fun c => c.before args0 about1) = true
  refine all_split ?_ w_codes
  rw [← List.take_append_drop 24 words1, List.all_append, w_t1, ← List.take_append_drop 24 (words1.drop 24), List.all_append, w_t2, ← List.take_append_drop 24 ((words1.drop 24).drop 24), List.all_append, w_t3, ← List.take_append_drop 24 (((words1.drop 24).drop 24).drop 24), List.all_append, w_t4, w_t5]
  rfl
set_option maxRecDepth 65536 in
theorem w_rest : rest_1_c.before args0 about1 = true := by decide +kernel
set_option maxRecDepth 65536 in
theorem w_case : (Jvm.Cond.and given_1 narrow_1).before args0 about1 = true := by decide +kernel
theorem w_applies : (headSpec (Jvm.Cond.code x code maxLocals ret :: tables_1) room_1).applies x e0.platform about1 = true :=
  (Spec.applies_iff w_frames).mpr ⟨w_running, w_runnable, w_alone, w_named, w_hears, w_ripe, w_room, w_tables⟩
theorem atStart : AtStart classFile x code maxLocals ret World_1 tables_1 room_1 Calls_1 rest_1 Pre_1 launch0 p0 e0 about1 theMethod args0 below0 :=
  ⟨lists_1, trivial, launch0.admits_env _ _ _, launch0.least_env, fairChoices_fair.cas, fairChoices_fair.clock, w_frames, w_args, w_heap, w_applies, trivial, w_rest, w_case⟩
end start1
theorem witness_1 : WitnessClaimed_1 := ⟨start1.p0, start1.e0, start1.about1, start1.theMethod, start1.args0, start1.below0, start1.atStart⟩
end Jvm.Pilot.@@N@@
