import JvmDerived
import JvmDerived.Pilot.@@N@@Statement
import JvmDerived.Pilot.@@N@@Code
set_option linter.unusedVariables false
set_option linter.unusedSimpArgs false
namespace Jvm.WK
open Sem ClassFile Op Lib Jvm.Stand Jvm.Free Jvm.LawKit Jvm.RoadKit Bundle
/-! WK: a walk in continuation form over RoadKit's laws: 'Go' (from this frame the invocation ends well), 'W' (where the walk stands; it may have interned), one law a step. -/
abbrev Cx : Type := Program × Env × State × MethodId × Array Value × List Frame × Method × Code
abbrev Cx.p (κ : Cx) : Program := κ.1
abbrev Cx.e (κ : Cx) : Env := κ.2.1
abbrev Cx.s (κ : Cx) : State := κ.2.2.1
abbrev Cx.m (κ : Cx) : MethodId := κ.2.2.2.1
abbrev Cx.a (κ : Cx) : Array Value := κ.2.2.2.2.1
abbrev Cx.b (κ : Cx) : List Frame := κ.2.2.2.2.2.1
abbrev Cx.M (κ : Cx) : Method := κ.2.2.2.2.2.2.1
abbrev Cx.c (κ : Cx) : Code := κ.2.2.2.2.2.2.2
def Fx (κ : Cx) (G : Option Value → State → Prop) (A : State) : Prop :=
  ∃ (v : Option Value) (B : State), Steps κ.p.tables κ.e κ.b A B ∧ B.status = .running ∧ Ended B κ.b (.returned v) ∧ G v B
abbrev Go (κ : Cx) (G : Option Value → State → Prop) (T : State) (pc : Nat) (Ls : Array Slot) (st : List Value) : Prop := Fx κ G (T.setTop (mkF κ.m pc Ls st))
section Base
variable {κ : Cx} {G : Option Value → State → Prop} {T : State}
theorem Fx.via {A A' : State} (k : ∀ t, Steps κ.p.tables κ.e κ.b A' t → Steps κ.p.tables κ.e κ.b A t) (f : Fx κ G A') : Fx κ G A := by
  obtain ⟨v, B, h1, h2⟩ := f; exact ⟨v, B, k _ h1, h2⟩
theorem Fx.after {A A' : State} (k : Steps κ.p.tables κ.e κ.b A A') (f : Fx κ G A') : Fx κ G A := by
  obtain ⟨v, B, h1, h2⟩ := f; exact ⟨v, B, k.trans h1, h2⟩
def Dec (κ : Cx) (D : List (Nat × Instr × Nat)) : Prop := ∀ q ∈ D, decode κ.c.code q.1 = .ok q.2
theorem Dec.g {D : List (Nat × Instr × Nat)} (d : Dec κ D) (i : Nat) {pc : Nat} {ins : Instr} {len : Nat} (h : D[i]? = some (pc, ins, len)) : decode κ.c.code pc = .ok (ins, len) := d (pc, ins, len) (List.mem_of_getElem? h)
theorem Dec.of {D : List (Nat × Instr × Nat)} {code : ByteArray} (hc : κ.c.code = code) (h : ∀ q ∈ D, decode code q.1 = .ok q.2) : Dec κ D := fun q hq => by rw [hc]; exact h q hq
theorem Go.top {pc : Nat} {Ls : Array Slot} {st : List Value} {x y : Int32} (e : x = y) (g : Go κ G T pc Ls (.int y :: st)) : Go κ G T pc Ls (.int x :: st) := by subst e; exact g
/-- it stands, and the tables execute as they should -/
def Ok (κ : Cx) (T : State) : Prop := At T κ.m κ.c κ.b ∧ κ.p.tables.exec = Jvm.exec
abbrev St : Type := Nat × Array Slot × List Value
def Snd (κ : Cx) (T : State) (f : St → Option St) : Prop := ∀ (a b : St) (G : Option Value → State → Prop), f a = some b → Go κ G T b.1 b.2.1 b.2.2 → Go κ G T a.1 a.2.1 a.2.2
def Opn (κ : Cx) (T : State) : Type := { f : St → Option St // Snd κ T f }
def run : List (Opn κ T) → St → Option St
  | [], a => some a
  | o :: os, a => match o.1 a with | some b => run os b | none => none
theorem run_ok : ∀ (os : List (Opn κ T)) (a b : St), run os a = some b → Go κ G T b.1 b.2.1 b.2.2 → Go κ G T a.1 a.2.1 a.2.2
  | [], a, b, h, g => by cases h; exact g
  | o :: os, a, b, h, g => by
    unfold run at h
    split at h
    · rename_i b' hb
      exact o.2 a b' G hb (run_ok os b' b h g)
    · cases h
theorem blk (os : List (Opn κ T)) {pc pc' : Nat} {Ls Ls' : Array Slot} {st st' : List Value} (h : run os (pc, Ls, st) = some (pc', Ls', st')) (g : Go κ G T pc' Ls' st') : Go κ G T pc Ls st := run_ok os (pc, Ls, st) (pc', Ls', st') h g
def mkOp (pc0 : Nat) (f : Array Slot → List Value → Option St) (hs : ∀ (Ls : Array Slot) (st : List Value) (b : St) (G : Option Value → State → Prop), f Ls st = some b → Go κ G T b.1 b.2.1 b.2.2 → Go κ G T pc0 Ls st) : Opn κ T :=
  ⟨fun a => match Nat.beq a.1 pc0 with | true => f a.2.1 a.2.2 | false => none, by
    intro a b G h g
    obtain ⟨pc, Ls, st⟩ := a
    dsimp only at h
    split at h
    · rename_i hb
      have := Nat.eq_of_beq_eq_true hb
      subst this
      exact hs Ls st b G h g
    · cases h⟩
end Base
section Ops
variable {κ : Cx} {T : State} {pc0 : Nat}
def oIconst (w : Ok κ T) {i : Int} (hd : decode κ.c.code pc0 = .ok (.iconst i, 1)) : Opn κ T := mkOp pc0 (fun Ls st => some (pc0 + 1, Ls, .int (Int32.ofInt i) :: st)) (by
  intro Ls st b G h g; cases h; exact Fx.via (fun _ => XS.iconst w.1 w.2 rfl hd) g)
def oBipush (w : Ok κ T) {i : Int} (hd : decode κ.c.code pc0 = .ok (.bipush i, 2)) : Opn κ T := mkOp pc0 (fun Ls st => some (pc0 + 2, Ls, .int (Int8.ofInt i).toInt32 :: st)) (by
  intro Ls st b G h g; cases h; exact Fx.via (fun _ => XS.bipush w.1 w.2 rfl hd) g)
def oSipush (w : Ok κ T) {i : Int} (hd : decode κ.c.code pc0 = .ok (.sipush i, 3)) : Opn κ T := mkOp pc0 (fun Ls st => some (pc0 + 3, Ls, .int (Int16.ofInt i).toInt32 :: st)) (by
  intro Ls st b G h g; cases h; exact Fx.via (fun _ => XS.sipush w.1 w.2 rfl hd) g)
def oAnull (w : Ok κ T) (hd : decode κ.c.code pc0 = .ok (.aconst_null, 1)) : Opn κ T := mkOp pc0 (fun Ls st => some (pc0 + 1, Ls, .null :: st)) (by
  intro Ls st b G h g; cases h; exact Fx.via (fun _ => XS.aconstNull w.1 w.2 rfl hd) g)
def oIload (w : Ok κ T) {k : Nat} (hd : decode κ.c.code pc0 = .ok (.iload k, 2)) : Opn κ T := mkOp pc0 (fun Ls st => match Ls[k]? with | some (.val (.int v)) => some (pc0 + 2, Ls, .int v :: st) | _ => none) (by
  intro Ls st b G h g
  split at h
  · rename_i v hl; cases h; exact Fx.via (fun _ => XS.iload w.1 w.2 rfl hd hl) g
  · cases h)
def oIloadN (w : Ok κ T) {k : Fin 4} (hd : decode κ.c.code pc0 = .ok (.iload_n k, 1)) : Opn κ T := mkOp pc0 (fun Ls st => match Ls[k.val]? with | some (.val (.int v)) => some (pc0 + 1, Ls, .int v :: st) | _ => none) (by
  intro Ls st b G h g
  split at h
  · rename_i v hl; cases h; exact Fx.via (fun _ => XS.iloadN w.1 w.2 rfl hd hl) g
  · cases h)
def oDload (w : Ok κ T) {k : Nat} (hd : decode κ.c.code pc0 = .ok (.dload k, 2)) : Opn κ T := mkOp pc0 (fun Ls st => match Ls[k]? with | some (.val (.double v)) => some (pc0 + 2, Ls, .double v :: st) | _ => none) (by
  intro Ls st b G h g
  split at h
  · rename_i v hl; cases h; exact Fx.via (fun _ => XS.dload w.1 w.2 rfl hd hl) g
  · cases h)
def oAload (w : Ok κ T) {k : Nat} (hd : decode κ.c.code pc0 = .ok (.aload k, 2)) : Opn κ T := mkOp pc0 (fun Ls st => match Ls[k]? with | some (.val (.ref v)) => some (pc0 + 2, Ls, .ref v :: st) | some (.val .null) => some (pc0 + 2, Ls, .null :: st) | _ => none) (by
  intro Ls st b G h g
  split at h
  · rename_i v hl; cases h; exact Fx.via (fun _ => XS.aload w.1 w.2 rfl hd hl rfl) g
  · rename_i hl; cases h; exact Fx.via (fun _ => XS.aload w.1 w.2 rfl hd hl rfl) g
  · cases h)
def oAloadN (w : Ok κ T) {k : Fin 4} (hd : decode κ.c.code pc0 = .ok (.aload_n k, 1)) : Opn κ T := mkOp pc0 (fun Ls st => match Ls[k.val]? with | some (.val (.ref v)) => some (pc0 + 1, Ls, .ref v :: st) | some (.val .null) => some (pc0 + 1, Ls, .null :: st) | _ => none) (by
  intro Ls st b G h g
  split at h
  · rename_i v hl; cases h; exact Fx.via (fun _ => XS.aloadN w.1 w.2 rfl hd hl rfl) g
  · rename_i hl; cases h; exact Fx.via (fun _ => XS.aloadN w.1 w.2 rfl hd hl rfl) g
  · cases h)
def oIstore (w : Ok κ T) {k : Nat} (hd : decode κ.c.code pc0 = .ok (.istore k, 2)) : Opn κ T := mkOp pc0 (fun Ls st => match st with | .int x :: r => (match storeLocals Ls k (.int x) with | some l' => some (pc0 + 2, l', r) | none => none) | _ => none) (by
  intro Ls st b G h g
  split at h
  · split at h
    · rename_i l' hl; cases h; exact Fx.via (fun _ => XS.istore w.1 w.2 rfl hd rfl hl) g
    · cases h
  · cases h)
def oIstoreN (w : Ok κ T) {k : Fin 4} (hd : decode κ.c.code pc0 = .ok (.istore_n k, 1)) : Opn κ T := mkOp pc0 (fun Ls st => match st with | .int x :: r => (match storeLocals Ls k.val (.int x) with | some l' => some (pc0 + 1, l', r) | none => none) | _ => none) (by
  intro Ls st b G h g
  split at h
  · split at h
    · rename_i l' hl; cases h; exact Fx.via (fun _ => XS.istoreN w.1 w.2 rfl hd rfl hl) g
    · cases h
  · cases h)
def oDstore (w : Ok κ T) {k : Nat} (hd : decode κ.c.code pc0 = .ok (.dstore k, 2)) : Opn κ T := mkOp pc0 (fun Ls st => match st with | .double x :: r => (match storeLocals Ls k (.double x) with | some l' => some (pc0 + 2, l', r) | none => none) | _ => none) (by
  intro Ls st b G h g
  split at h
  · split at h
    · rename_i l' hl; cases h; exact Fx.via (fun _ => XS.dstore w.1 w.2 rfl hd rfl hl) g
    · cases h
  · cases h)
def oAstore (w : Ok κ T) {k : Nat} (hd : decode κ.c.code pc0 = .ok (.astore k, 2)) : Opn κ T := mkOp pc0 (fun Ls st => match st with | .ref x :: r => (match storeLocals Ls k (.ref x) with | some l' => some (pc0 + 2, l', r) | none => none) | .null :: r => (match storeLocals Ls k .null with | some l' => some (pc0 + 2, l', r) | none => none) | _ => none) (by
  intro Ls st b G h g
  split at h
  · split at h
    · rename_i l' hl; cases h; exact Fx.via (fun _ => XS.astore w.1 w.2 rfl hd rfl rfl hl) g
    · cases h
  · split at h
    · rename_i l' hl; cases h; exact Fx.via (fun _ => XS.astore w.1 w.2 rfl hd rfl rfl hl) g
    · cases h
  · cases h)
def oAstoreN (w : Ok κ T) {k : Fin 4} (hd : decode κ.c.code pc0 = .ok (.astore_n k, 1)) : Opn κ T := mkOp pc0 (fun Ls st => match st with | .ref x :: r => (match storeLocals Ls k.val (.ref x) with | some l' => some (pc0 + 1, l', r) | none => none) | .null :: r => (match storeLocals Ls k.val .null with | some l' => some (pc0 + 1, l', r) | none => none) | _ => none) (by
  intro Ls st b G h g
  split at h
  · split at h
    · rename_i l' hl; cases h; exact Fx.via (fun _ => XS.astoreN w.1 w.2 rfl hd rfl rfl hl) g
    · cases h
  · split at h
    · rename_i l' hl; cases h; exact Fx.via (fun _ => XS.astoreN w.1 w.2 rfl hd rfl rfl hl) g
    · cases h
  · cases h)
def oIinc (w : Ok κ T) {k : Nat} {z : Int} (hd : decode κ.c.code pc0 = .ok (.iinc k z, 3)) : Opn κ T := mkOp pc0 (fun Ls st => match Ls[k]? with | some (.val (.int x)) => (match storeLocals Ls k (.int (x + Int32.ofInt z)) with | some l' => some (pc0 + 3, l', st) | none => none) | _ => none) (by
  intro Ls st b G h g
  split at h
  · rename_i x hx
    split at h
    · rename_i l' hl; cases h; exact Fx.via (fun _ => XS.iinc w.1 w.2 rfl hd hx hl) g
    · cases h
  · cases h)
def oBin (pc0 : Nat) (f : Int32 → Int32 → Int32) (hs : ∀ (x y : Int32) (r : List Value) (Ls : Array Slot) (G : Option Value → State → Prop), Go κ G T (pc0 + 1) Ls (.int (f x y) :: r) → Go κ G T pc0 Ls (.int y :: .int x :: r)) : Opn κ T := mkOp pc0 (fun Ls st => match st with | .int y :: .int x :: r => some (pc0 + 1, Ls, .int (f x y) :: r) | _ => none) (by
  intro Ls st b G h g
  split at h
  · cases h; exact hs _ _ _ _ _ g
  · cases h)
def oIadd (w : Ok κ T) (hd : decode κ.c.code pc0 = .ok (.iadd, 1)) : Opn κ T := oBin pc0 (fun x y => x + y) (fun _ _ _ _ _ g => Fx.via (fun _ => XS.iadd w.1 w.2 rfl hd rfl) g)
def oIsub (w : Ok κ T) (hd : decode κ.c.code pc0 = .ok (.isub, 1)) : Opn κ T := oBin pc0 (fun x y => x - y) (fun _ _ _ _ _ g => Fx.via (fun _ => XS.isub w.1 w.2 rfl hd rfl) g)
def oImul (w : Ok κ T) (hd : decode κ.c.code pc0 = .ok (.imul, 1)) : Opn κ T := oBin pc0 (fun x y => x * y) (fun _ _ _ _ _ g => Fx.via (fun _ => XS.imul w.1 w.2 rfl hd rfl) g)
def oIand (w : Ok κ T) (hd : decode κ.c.code pc0 = .ok (.iand, 1)) : Opn κ T := oBin pc0 (fun x y => x &&& y) (fun _ _ _ _ _ g => Fx.via (fun _ => XS.iand w.1 w.2 rfl hd rfl) g)
def oIor (w : Ok κ T) (hd : decode κ.c.code pc0 = .ok (.ior, 1)) : Opn κ T := oBin pc0 (fun x y => x ||| y) (fun _ _ _ _ _ g => Fx.via (fun _ => XS.ior w.1 w.2 rfl hd rfl) g)
def oIxor (w : Ok κ T) (hd : decode κ.c.code pc0 = .ok (.ixor, 1)) : Opn κ T := oBin pc0 (fun x y => x ^^^ y) (fun _ _ _ _ _ g => Fx.via (fun _ => XS.ixor w.1 w.2 rfl hd rfl) g)
def oIshl (w : Ok κ T) (hd : decode κ.c.code pc0 = .ok (.ishl, 1)) : Opn κ T := oBin pc0 (fun x y => x <<< (y &&& 31)) (fun _ _ _ _ _ g => Fx.via (fun _ => XS.ishl w.1 w.2 rfl hd rfl) g)
def oIshr (w : Ok κ T) (hd : decode κ.c.code pc0 = .ok (.ishr, 1)) : Opn κ T := oBin pc0 (fun x y => x >>> (y &&& 31)) (fun _ _ _ _ _ g => Fx.via (fun _ => XS.ishr w.1 w.2 rfl hd rfl) g)
def oIushr (w : Ok κ T) (hd : decode κ.c.code pc0 = .ok (.iushr, 1)) : Opn κ T := oBin pc0 (fun x y => (x.toUInt32 >>> (y &&& 31).toUInt32).toInt32) (fun _ _ _ _ _ g => Fx.via (fun _ => XS.iushr w.1 w.2 rfl hd rfl) g)
def oIrem (w : Ok κ T) (hd : decode κ.c.code pc0 = .ok (.irem, 1)) : Opn κ T := mkOp pc0 (fun Ls st => match st with | .int y :: .int x :: r => (match decEq y 0 with | isTrue _ => none | isFalse _ => some (pc0 + 1, Ls, .int (x % y) :: r)) | _ => none) (by
  intro Ls st b G h g
  split at h
  · split at h
    · cases h
    · rename_i x y r _ hy _; cases h
      refine Fx.via (fun _ z => XS.irem w.1 w.2 rfl hd rfl hy ?_) g
      have q := irem_eq_mod
      rw [q]; exact z
  · cases h)
def oUn (pc0 : Nat) (f : Int32 → Int32) (hs : ∀ (x : Int32) (r : List Value) (Ls : Array Slot) (G : Option Value → State → Prop), Go κ G T (pc0 + 1) Ls (.int (f x) :: r) → Go κ G T pc0 Ls (.int x :: r)) : Opn κ T := mkOp pc0 (fun Ls st => match st with | .int x :: r => some (pc0 + 1, Ls, .int (f x) :: r) | _ => none) (by
  intro Ls st b G h g
  split at h
  · cases h; exact hs _ _ _ _ g
  · cases h)
def oIneg (w : Ok κ T) (hd : decode κ.c.code pc0 = .ok (.ineg, 1)) : Opn κ T := oUn pc0 (fun x => -x) (fun _ _ _ _ g => Fx.via (fun _ => XS.ineg w.1 w.2 rfl hd rfl) g)
def oI2b (w : Ok κ T) (hd : decode κ.c.code pc0 = .ok (.i2b, 1)) : Opn κ T := oUn pc0 (fun x => x.toInt8.toInt32) (fun _ _ _ _ g => Fx.via (fun _ => XS.i2b w.1 w.2 rfl hd rfl) g)
def oI2c (w : Ok κ T) (hd : decode κ.c.code pc0 = .ok (.i2c, 1)) : Opn κ T := oUn pc0 (fun x => x.toUInt32.toUInt16.toUInt32.toInt32) (fun _ _ _ _ g => Fx.via (fun _ => XS.i2c w.1 w.2 rfl hd rfl) g)
def oI2s (w : Ok κ T) (hd : decode κ.c.code pc0 = .ok (.i2s, 1)) : Opn κ T := oUn pc0 (fun x => x.toInt16.toInt32) (fun _ _ _ _ g => Fx.via (fun _ => XS.i2s w.1 w.2 rfl hd rfl) g)
def oI2d (w : Ok κ T) (hd : decode κ.c.code pc0 = .ok (.i2d, 1)) : Opn κ T := mkOp pc0 (fun Ls st => match st with | .int x :: r => some (pc0 + 1, Ls, .double (FP.i2d x) :: r) | _ => none) (by
  intro Ls st b G h g
  split at h
  · cases h; exact Fx.via (fun _ => XS.i2dS w.1 w.2 rfl hd rfl rfl) g
  · cases h)
def oDup (w : Ok κ T) (hd : decode κ.c.code pc0 = .ok (.dup, 1)) : Opn κ T := mkOp pc0 (fun Ls st => match st with | .int x :: r => some (pc0 + 1, Ls, .int x :: .int x :: r) | .ref x :: r => some (pc0 + 1, Ls, .ref x :: .ref x :: r) | _ => none) (by
  intro Ls st b G h g
  split at h
  · cases h; exact Fx.via (fun _ => XS.dup w.1 w.2 rfl hd rfl rfl) g
  · cases h; exact Fx.via (fun _ => XS.dup w.1 w.2 rfl hd rfl rfl) g
  · cases h)
def oPop (w : Ok κ T) (hd : decode κ.c.code pc0 = .ok (.pop, 1)) : Opn κ T := mkOp pc0 (fun Ls st => match st with | .int x :: r => some (pc0 + 1, Ls, r) | .ref x :: r => some (pc0 + 1, Ls, r) | .null :: r => some (pc0 + 1, Ls, r) | _ => none) (by
  intro Ls st b G h g
  split at h
  · cases h; exact Fx.via (fun _ => XS.pop w.1 w.2 rfl hd rfl rfl) g
  · cases h; exact Fx.via (fun _ => XS.pop w.1 w.2 rfl hd rfl rfl) g
  · cases h; exact Fx.via (fun _ => XS.pop w.1 w.2 rfl hd rfl rfl) g
  · cases h)
def oGoto (w : Ok κ T) {o : Int} (pc' : Nat) (hd : decode κ.c.code pc0 = .ok (.goto o, 3)) (ho : 0 ≤ (pc0 : Int) + o := by decide) (hp : ((pc0 : Int) + o).toNat = pc' := by decide) : Opn κ T := mkOp pc0 (fun Ls st => some (pc', Ls, st)) (by
  intro Ls st b G h g; cases h; exact Fx.via (fun _ => XS.goto w.1 w.2 rfl rfl hd ho hp) g)
end Ops
section Branch
variable {κ : Cx} {G : Option Value → State → Prop} {T : State} {pc pc' : Nat} {Ls : Array Slot} {st : List Value} {x y : Int32} {o : Int}
theorem if_icmpG (w : Ok κ T) {cd : ClassFile.Cond} (hd : decode κ.c.code pc = .ok (.if_icmp cd o, 3)) (ho : 0 ≤ (pc : Int) + o) (hp : ((pc : Int) + o).toNat = pc') (hT : if_icmp.holds cd x y = true → Go κ G T pc' Ls st) (hF : if_icmp.holds cd x y = false → Go κ G T (pc + 3) Ls st) : Go κ G T pc Ls (.int y :: .int x :: st) := by
  cases hb : if_icmp.holds cd x y with
  | true => exact Fx.via (fun _ => XS.icmpYes w.1 w.2 rfl rfl hd rfl hb ho hp) (hT hb)
  | false => exact Fx.via (fun _ => XS.icmpNo w.1 w.2 rfl hd rfl hb) (hF hb)
theorem ifG (w : Ok κ T) {cd : ClassFile.Cond} (hd : decode κ.c.code pc = .ok (.ifCond cd o, 3)) (ho : 0 ≤ (pc : Int) + o) (hp : ((pc : Int) + o).toNat = pc') (hT : if_icmp.holds cd x 0 = true → Go κ G T pc' Ls st) (hF : if_icmp.holds cd x 0 = false → Go κ G T (pc + 3) Ls st) : Go κ G T pc Ls (.int x :: st) := by
  cases hb : if_icmp.holds cd x 0 with
  | true => exact Fx.via (fun _ => XS.ifYes w.1 w.2 rfl rfl hd rfl ((if0 cd x).trans hb) ho hp) (hT hb)
  | false => exact Fx.via (fun _ => XS.ifNo w.1 w.2 rfl hd rfl ((if0 cd x).trans hb)) (hF hb)
theorem h_eq {x y : Int32} : (if_icmp.holds .eq x y = true → x = y) ∧ (if_icmp.holds .eq x y = false → ¬ x = y) := ⟨fun h => Classical.byContradiction fun q => (by rw [(feq q).1] at h; cases h), fun h q => (by rw [(teq q).1] at h; cases h)⟩
theorem h_ne {x y : Int32} : (if_icmp.holds .ne x y = true → ¬ x = y) ∧ (if_icmp.holds .ne x y = false → x = y) := ⟨fun h q => (by rw [(teq q).2] at h; cases h), fun h => Classical.byContradiction fun q => (by rw [(feq q).2] at h; cases h)⟩
theorem h_lt {x y : Int32} : (if_icmp.holds .lt x y = true → x < y) ∧ (if_icmp.holds .lt x y = false → ¬ x < y) := ⟨fun h => Classical.byContradiction fun q => (by rw [(flt q).1] at h; cases h), fun h q => (by rw [(tlt q).1] at h; cases h)⟩
theorem h_ge {x y : Int32} : (if_icmp.holds .ge x y = true → ¬ x < y) ∧ (if_icmp.holds .ge x y = false → x < y) := ⟨fun h q => (by rw [(tlt q).2.1] at h; cases h), fun h => Classical.byContradiction fun q => (by rw [(flt q).2.1] at h; cases h)⟩
theorem h_gt {x y : Int32} : (if_icmp.holds .gt x y = true → y < x) ∧ (if_icmp.holds .gt x y = false → ¬ y < x) := ⟨fun h => Classical.byContradiction fun q => (by rw [(flt q).2.2.1] at h; cases h), fun h q => (by rw [(tlt q).2.2.1] at h; cases h)⟩
theorem h_le {x y : Int32} : (if_icmp.holds .le x y = true → ¬ y < x) ∧ (if_icmp.holds .le x y = false → y < x) := ⟨fun h q => (by rw [(tlt q).2.2.2] at h; cases h), fun h => Classical.byContradiction fun q => (by rw [(flt q).2.2.2] at h; cases h)⟩
theorem cEq (w : Ok κ T) (hd : decode κ.c.code pc = .ok (.if_icmp .eq o, 3)) (ho : 0 ≤ (pc : Int) + o) (hp : ((pc : Int) + o).toNat = pc') (hT : x = y → Go κ G T pc' Ls st) (hF : ¬ x = y → Go κ G T (pc + 3) Ls st) : Go κ G T pc Ls (.int y :: .int x :: st) := if_icmpG w hd ho hp (fun q => hT (h_eq.1 q)) (fun q => hF (h_eq.2 q))
theorem cNe (w : Ok κ T) (hd : decode κ.c.code pc = .ok (.if_icmp .ne o, 3)) (ho : 0 ≤ (pc : Int) + o) (hp : ((pc : Int) + o).toNat = pc') (hT : ¬ x = y → Go κ G T pc' Ls st) (hF : x = y → Go κ G T (pc + 3) Ls st) : Go κ G T pc Ls (.int y :: .int x :: st) := if_icmpG w hd ho hp (fun q => hT (h_ne.1 q)) (fun q => hF (h_ne.2 q))
theorem cLt (w : Ok κ T) (hd : decode κ.c.code pc = .ok (.if_icmp .lt o, 3)) (ho : 0 ≤ (pc : Int) + o) (hp : ((pc : Int) + o).toNat = pc') (hT : x < y → Go κ G T pc' Ls st) (hF : ¬ x < y → Go κ G T (pc + 3) Ls st) : Go κ G T pc Ls (.int y :: .int x :: st) := if_icmpG w hd ho hp (fun q => hT (h_lt.1 q)) (fun q => hF (h_lt.2 q))
theorem cGe (w : Ok κ T) (hd : decode κ.c.code pc = .ok (.if_icmp .ge o, 3)) (ho : 0 ≤ (pc : Int) + o) (hp : ((pc : Int) + o).toNat = pc') (hT : ¬ x < y → Go κ G T pc' Ls st) (hF : x < y → Go κ G T (pc + 3) Ls st) : Go κ G T pc Ls (.int y :: .int x :: st) := if_icmpG w hd ho hp (fun q => hT (h_ge.1 q)) (fun q => hF (h_ge.2 q))
theorem cGt (w : Ok κ T) (hd : decode κ.c.code pc = .ok (.if_icmp .gt o, 3)) (ho : 0 ≤ (pc : Int) + o) (hp : ((pc : Int) + o).toNat = pc') (hT : y < x → Go κ G T pc' Ls st) (hF : ¬ y < x → Go κ G T (pc + 3) Ls st) : Go κ G T pc Ls (.int y :: .int x :: st) := if_icmpG w hd ho hp (fun q => hT (h_gt.1 q)) (fun q => hF (h_gt.2 q))
theorem cLe (w : Ok κ T) (hd : decode κ.c.code pc = .ok (.if_icmp .le o, 3)) (ho : 0 ≤ (pc : Int) + o) (hp : ((pc : Int) + o).toNat = pc') (hT : ¬ y < x → Go κ G T pc' Ls st) (hF : y < x → Go κ G T (pc + 3) Ls st) : Go κ G T pc Ls (.int y :: .int x :: st) := if_icmpG w hd ho hp (fun q => hT (h_le.1 q)) (fun q => hF (h_le.2 q))
theorem zEq (w : Ok κ T) (hd : decode κ.c.code pc = .ok (.ifCond .eq o, 3)) (ho : 0 ≤ (pc : Int) + o) (hp : ((pc : Int) + o).toNat = pc') (hT : x = 0 → Go κ G T pc' Ls st) (hF : ¬ x = 0 → Go κ G T (pc + 3) Ls st) : Go κ G T pc Ls (.int x :: st) := ifG w hd ho hp (fun q => hT (h_eq.1 q)) (fun q => hF (h_eq.2 q))
theorem zNe (w : Ok κ T) (hd : decode κ.c.code pc = .ok (.ifCond .ne o, 3)) (ho : 0 ≤ (pc : Int) + o) (hp : ((pc : Int) + o).toNat = pc') (hT : ¬ x = 0 → Go κ G T pc' Ls st) (hF : x = 0 → Go κ G T (pc + 3) Ls st) : Go κ G T pc Ls (.int x :: st) := ifG w hd ho hp (fun q => hT (h_ne.1 q)) (fun q => hF (h_ne.2 q))
theorem zLt (w : Ok κ T) (hd : decode κ.c.code pc = .ok (.ifCond .lt o, 3)) (ho : 0 ≤ (pc : Int) + o) (hp : ((pc : Int) + o).toNat = pc') (hT : x < 0 → Go κ G T pc' Ls st) (hF : ¬ x < 0 → Go κ G T (pc + 3) Ls st) : Go κ G T pc Ls (.int x :: st) := ifG w hd ho hp (fun q => hT (h_lt.1 q)) (fun q => hF (h_lt.2 q))
theorem zGe (w : Ok κ T) (hd : decode κ.c.code pc = .ok (.ifCond .ge o, 3)) (ho : 0 ≤ (pc : Int) + o) (hp : ((pc : Int) + o).toNat = pc') (hT : ¬ x < 0 → Go κ G T pc' Ls st) (hF : x < 0 → Go κ G T (pc + 3) Ls st) : Go κ G T pc Ls (.int x :: st) := ifG w hd ho hp (fun q => hT (h_ge.1 q)) (fun q => hF (h_ge.2 q))
theorem zGt (w : Ok κ T) (hd : decode κ.c.code pc = .ok (.ifCond .gt o, 3)) (ho : 0 ≤ (pc : Int) + o) (hp : ((pc : Int) + o).toNat = pc') (hT : 0 < x → Go κ G T pc' Ls st) (hF : ¬ 0 < x → Go κ G T (pc + 3) Ls st) : Go κ G T pc Ls (.int x :: st) := ifG w hd ho hp (fun q => hT (h_gt.1 q)) (fun q => hF (h_gt.2 q))
theorem zLe (w : Ok κ T) (hd : decode κ.c.code pc = .ok (.ifCond .le o, 3)) (ho : 0 ≤ (pc : Int) + o) (hp : ((pc : Int) + o).toNat = pc') (hT : ¬ 0 < x → Go κ G T pc' Ls st) (hF : 0 < x → Go κ G T (pc + 3) Ls st) : Go κ G T pc Ls (.int x :: st) := ifG w hd ho hp (fun q => hT (h_le.1 q)) (fun q => hF (h_le.2 q))
theorem nnRef (w : Ok κ T) {a : Addr} (hd : decode κ.c.code pc = .ok (.ifnonnull o, 3)) (ho : 0 ≤ (pc : Int) + o) (hp : ((pc : Int) + o).toNat = pc') (g : Go κ G T pc' Ls st) : Go κ G T pc Ls (.ref a :: st) := Fx.via (fun _ => XT.nonnullYes w.1 w.2 rfl rfl hd rfl rfl (fun q => nomatch q) ho hp) g
theorem nnNull (w : Ok κ T) (hd : decode κ.c.code pc = .ok (.ifnonnull o, 3)) (g : Go κ G T (pc + 3) Ls st) : Go κ G T pc Ls (.null :: st) := Fx.via (fun _ => XT.nonnullNo w.1 w.2 rfl hd rfl rfl) g
theorem nuNull (w : Ok κ T) (hd : decode κ.c.code pc = .ok (.ifnull o, 3)) (ho : 0 ≤ (pc : Int) + o) (hp : ((pc : Int) + o).toNat = pc') (g : Go κ G T pc' Ls st) : Go κ G T pc Ls (.null :: st) := Fx.via (fun _ => XS.ifnullYes w.1 w.2 rfl rfl hd rfl ho hp) g
theorem nuRef (w : Ok κ T) {a : Addr} (hd : decode κ.c.code pc = .ok (.ifnull o, 3)) (g : Go κ G T (pc + 3) Ls st) : Go κ G T pc Ls (.ref a :: st) := Fx.via (fun _ => XS.ifnullNo w.1 w.2 rfl hd rfl) g
theorem aloadV (w : Ok κ T) {k : Nat} {v : Value} (hd : decode κ.c.code pc = .ok (.aload k, 2)) (hl : Ls[k]? = some (.val v)) (hv : v.isRef = true) (g : Go κ G T (pc + 2) Ls (v :: st)) : Go κ G T pc Ls st := Fx.via (fun _ => XS.aload w.1 w.2 rfl hd hl hv) g
theorem aloadNV (w : Ok κ T) {k : Fin 4} {v : Value} (hd : decode κ.c.code pc = .ok (.aload_n k, 1)) (hl : Ls[k.val]? = some (.val v)) (hv : v.isRef = true) (g : Go κ G T (pc + 1) Ls (v :: st)) : Go κ G T pc Ls st := Fx.via (fun _ => XS.aloadN w.1 w.2 rfl hd hl hv) g
theorem astoreV (w : Ok κ T) {k : Nat} {v : Value} {l' : Array Slot} (hd : decode κ.c.code pc = .ok (.astore k, 2)) (hv : v.isRef = true) (hl : storeLocals Ls k v = some l') (g : Go κ G T (pc + 2) l' st) : Go κ G T pc Ls (v :: st) := Fx.via (fun _ => XS.astore w.1 w.2 rfl hd rfl hv hl) g
theorem astoreNV (w : Ok κ T) {k : Fin 4} {v : Value} {l' : Array Slot} (hd : decode κ.c.code pc = .ok (.astore_n k, 1)) (hv : v.isRef = true) (hl : storeLocals Ls k.val v = some l') (g : Go κ G T (pc + 1) l' st) : Go κ G T pc Ls (v :: st) := Fx.via (fun _ => XS.astoreN w.1 w.2 rfl hd rfl hv hl) g
theorem istoreG (w : Ok κ T) {k : Nat} {o' : Slot} (hd : decode κ.c.code pc = .ok (.istore k, 2)) (hold : Ls[k]? = some o') (ho : One o') (g : Go κ G T (pc + 2) (Ls.setIfInBounds k (.val (.int x))) st) : Go κ G T pc Ls (.int x :: st) := Fx.via (fun _ => XS.istoreS w.1 w.2 rfl hd rfl hold ho) g
theorem istoreNG (w : Ok κ T) {k : Fin 4} {o' : Slot} (hd : decode κ.c.code pc = .ok (.istore_n k, 1)) (hold : Ls[k.val]? = some o') (ho : One o') (g : Go κ G T (pc + 1) (Ls.setIfInBounds k.val (.val (.int x))) st) : Go κ G T pc Ls (.int x :: st) := Fx.via (fun _ => XS.istoreNS w.1 w.2 rfl hd rfl hold ho) g
theorem astoreG (w : Ok κ T) {k : Nat} {o' : Slot} {a : Addr} (hd : decode κ.c.code pc = .ok (.astore k, 2)) (hold : Ls[k]? = some o') (ho : One o') (g : Go κ G T (pc + 2) (Ls.setIfInBounds k (.val (.ref a))) st) : Go κ G T pc Ls (.ref a :: st) := Fx.via (fun _ => XS.astoreS w.1 w.2 rfl hd rfl rfl rfl hold ho) g
end Branch
end Jvm.WK
namespace Jvm.WK
open Sem ClassFile Op Lib Jvm.Stand Jvm.Free Jvm.LawKit Jvm.RoadKit Bundle
theorem wd {L : List Jvm.Cond} {a0 : Array Value} {Z : State} (hw : ∀ d ∈ L, d.before a0 Z = true) (k : Nat) {d : Jvm.Cond} (h : L[k]? = some d) : d.before a0 Z = true := hw d (List.mem_of_getElem? h)
/-- an array of ints (or chars, bytes ..) with its values -/
def Ary (Z : State) (h : Heap) (a : Addr) (ty : FieldType) (vs : List Int32) : Prop :=
  ∃ c : Cell, Arr Z h a c ty ∧ c.slots.toList = vs.map Value.int ∧ vs.length < 2147483648 ∧ ∀ v ∈ vs, fits ty (.int v) = true
section AryFacts
variable {Z : State} {h h' : Heap} {a b : Addr} {ty : FieldType} {vs : List Int32} {ws : List Addr} {sl : Nat} {v : Value}
theorem Ary.lt (F : Ary Z h a ty vs) : a < h.size := by obtain ⟨c, A, -⟩ := F; exact A.lt
theorem Ary.ext (E : Ext h h') (F : Ary Z h a ty vs) : Ary Z h' a ty vs := by obtain ⟨c, A, r⟩ := F; exact ⟨c, A.ext E, r⟩
theorem Ary.other (W : Wr h h' b sl v) (F : Ary Z h a ty vs) (q : a ≠ b) : Ary Z h' a ty vs := by obtain ⟨c, A, r⟩ := F; exact ⟨c, A.other W q, r⟩
theorem Ary.keep (K : Keep h h' ws) (F : Ary Z h a ty vs) (q : a ∉ ws) : Ary Z h' a ty vs := by obtain ⟨c, A, r⟩ := F; exact ⟨c, ⟨K.2.1 a c A.1 q, A.2⟩, r⟩
theorem Ary.small (F : Ary Z h a ty vs) : vs.length < 2147483648 := by obtain ⟨c, A, r1, r2, -⟩ := F; exact r2
theorem Ary.fit (F : Ary Z h a ty vs) : ∀ v ∈ vs, fits ty (.int v) = true := by obtain ⟨c, A, r1, r2, r3⟩ := F; exact r3
theorem clamp_ofNat {i : Nat} (h : i < 2147483648) : (Int32.ofNat i).toNatClampNeg = i := by
  have h1 : (Int32.ofNat i).toInt = (i : Int) := Int32.toInt_ofNat_small (by omega)
  show (Int32.ofNat i).toInt.toNat = i
  rw [h1]; rfl
theorem nneg_ofNat {i : Nat} (h : i < 2147483648) : ¬ (Int32.ofNat i) < 0 := by
  have h1 : (Int32.ofNat i).toInt = (i : Int) := Int32.toInt_ofNat_small (by omega)
  rw [Int32.lt_iff_toInt_lt, h1]
  show ¬ ((i : Int) < 0)
  omega
theorem Ary.inb {c : Cell} {i : Nat} (hs : c.slots.toList = vs.map Value.int) (hl : vs.length < 2147483648) (hi : i < vs.length) : ¬ (Int32.ofNat i < 0 ∨ c.slots.size ≤ (Int32.ofNat i).toNatClampNeg) := by
  have hz : c.slots.size = vs.length := by
    have := congrArg List.length hs
    simpa using this
  rw [clamp_ofNat (by omega)]
  have := nneg_ofNat (i := i) (by omega)
  exact fun q => q.elim this (fun q => by omega)
theorem Ary.at {c : Cell} {i : Nat} (hs : c.slots.toList = vs.map Value.int) (hl : vs.length < 2147483648) (hi : i < vs.length) {x : Int32} (hx : vs[i]? = some x) : c.slots[(Int32.ofNat i).toNatClampNeg]? = some (.int x) := by
  rw [clamp_ofNat (by omega)]
  have : c.slots[i]? = c.slots.toList[i]? := by simp
  rw [this, hs]
  simp [hx]
theorem Ary.arv (F : Ary Z h a ty vs) : ∃ k, Arv Z h a k ty (Int32.ofNat vs.length) (vs.map Value.int) (.int 0) := by
  obtain ⟨c, A, r1, r2, r3⟩ := F
  have hz : c.slots.size = vs.length := by
    have := congrArg List.length r1
    simpa using this
  have H : Has c (vs.map Value.int) (.int 0) := fun k hk => by
    have : c.slots[k]? = c.slots.toList[k]? := by simp
    rw [this, r1]
    have hk' : k < vs.length := by omega
    simp [List.getD, hk']
  refine ⟨c.cls, c, A, rfl, by rw [hz, clamp_ofNat r2], nneg_ofNat r2, H, fun i hi => ?_⟩
  have hi' : i < vs.length := by omega
  simp only [List.getD, List.getElem?_map, List.getElem?_eq_getElem hi', Option.map_some, Option.getD_some]
  exact r3 _ (List.getElem_mem hi')
theorem Ary.of_arv {k : ClassId} {z : Int32} (hz : z.toNatClampNeg = vs.length) (F : Arv Z h a k ty z (vs.map Value.int) (.int 0)) : Ary Z h a ty vs := by
  obtain ⟨c, A, r1, r2, r3, H, r4⟩ := F
  have hs : c.slots.size = vs.length := r2.trans hz
  have hb := (back32 r3).2
  refine ⟨c, A, ?_, by omega, fun v hv => ?_⟩
  · apply List.ext_getElem?
    intro i
    by_cases hi : i < c.slots.size
    · have := H i hi
      have e : c.slots[i]? = c.slots.toList[i]? := by simp
      rw [← e, this]
      have hi' : i < vs.length := by omega
      simp [List.getD, hi']
    · rw [List.getElem?_eq_none (by simpa using Nat.le_of_not_lt hi), List.getElem?_eq_none (by simp; omega)]
  · obtain ⟨i, hi, rfl⟩ := List.getElem_of_mem hv
    have := r4 i (by omega)
    simpa [List.getD, hi] using this
theorem Ary.set {x : Int32} {i : Nat} (F : Ary Z h a ty vs) (hi : i < vs.length) (hx : fits ty (.int x) = true) (Wq : Wr h h' a (Int32.ofNat i).toNatClampNeg (.int x)) : Ary Z h' a ty (vs.set i x) := by
  obtain ⟨c, A, r1, r2, r3⟩ := F
  refine ⟨c.setSlot (Int32.ofNat i).toNatClampNeg (.int x), A.same Wq, ?_, by simpa using r2, fun v hv => ?_⟩
  · rw [clamp_ofNat (by omega)]
    simp [Cell.setSlot, r1, List.map_set]
  · rcases List.mem_or_eq_of_mem_set hv with q | q
    · exact r3 v q
    · rw [q]; exact hx
theorem Ary.new {k : ClassId} {z : Int32} {n : Nat} (A : Arr Z h a (newA k ty z) ty) (hn : z.toNatClampNeg = n) (hb : n < 2147483648) (hd : defaultValue ty = .int 0) (hf : fits ty (.int 0) = true) : Ary Z h a ty (List.replicate n 0) := by
  refine ⟨_, A, by simp [newA, hn, hd], by simpa using hb, fun v hv => ?_⟩
  rw [(List.mem_replicate.mp hv).2]; exact hf
theorem Ary.ne_ty {ty' : FieldType} {vs' : List Int32} (F : Ary Z h a ty vs) (F' : Ary Z h b ty' vs') (q : ty ≠ ty') : a ≠ b := fun e => by
  subst e
  obtain ⟨c, ⟨A1, ⟨-, k, A2, comp, A3⟩, -⟩, -⟩ := F
  obtain ⟨c', ⟨B1, ⟨-, k', B2, comp', B3⟩, -⟩, -⟩ := F'
  cases A1.symm.trans B1
  cases A2.symm.trans B2
  rw [A3] at B3
  cases B3; exact q rfl
theorem Ary.safe {EL : List (String × Nat)} {vm : Vm} (hal : Z.vm.Alike vm) (F : Ary Z h a ty vs) (q : ty ≠ .byte) : Safe Z EL vm h a := by obtain ⟨c, A, -⟩ := F; exact Safe.arr hal A q
end AryFacts
theorem safe_nil {Z : State} {vm : Vm} {h : Heap} {x : Addr} : Safe Z [] vm h x := fun B => by obtain ⟨p, hp, -⟩ := B; cases hp
/-- where the walk stands: s the invocation's start, vm the tables of its last interning, Z the case's start -/
def W (κ : Cx) (l : Launch) (R : Room) (Z : State) (EL : List (String × Nat)) (own nm : String) (mx : Nat) (rt : Option FieldType) (vm : Vm) (T : State) (h : Heap) (k n : Nat) : Prop :=
  (κ.p.tables.exec = Jvm.exec ∧ κ.c.maxLocals = mx ∧ κ.M.sig.returnType = rt ∧ κ.M.locks = false ∧ κ.M.name = nm ∧ ∃ a0, EW Z a0 EL) ∧
  ∃ (locs : List Loc) (k0 : Nat), Stand κ.p l κ.e R (κ.s.setVm vm) κ.m κ.a κ.b κ.M κ.c T locs k n ∧ T.heap = h ∧ κ.s.Since vm k0 ∧ k0 ≤ h.size ∧ Z.Warmed39 vm ∧ vm.findClass own = some κ.m.cls ∧ Fr Z.heap.size locs ∧ CHr Z EL κ.s.vm κ.s.heap vm h
/-- what an invocation owes at its end -/
def GQ (κ : Cx) (Z : State) (EL : List (String × Nat)) (rm : Room) (Q : Option Value → Heap → (Addr → Prop) → Prop) : Option Value → State → Prop :=
  fun v B => ∃ L, (Q v B.heap (Safe Z EL B.vm B.heap) ∧ Fr Z.heap.size L) ∧ CHr Z EL κ.s.vm κ.s.heap B.vm B.heap ∧ ReturnedEndW κ.s (.returned v) B L rm.cells rm.slots
/-- a contract -/
def Ctr (l : Launch) (Z : State) (EL : List (String × Nat)) (y : MethodName) (bytes : ByteArray) (maxL : Nat) (ret : Option FieldType) (ws : List Jvm.Cond) (rm : Room) (sf : List Addr) (as' : Array Value) (h : Heap) (Q : Option Value → Heap → (Addr → Prop) → Prop) : Prop :=
  MetFree l y (head1 (Jvm.Cond.code y bytes maxL ret :: ws) rm) (fun a U => a = as' ∧ Z.Warmed39 U.vm ∧ U.heap = h ∧ CHv Z EL U.vm h ∧ ∀ x ∈ sf, Safe Z EL U.vm h x) (fun _ _ _ _ _ => True) (fun _ U o U' => ∃ v L, o = .returned v ∧ (Q v U'.heap (Safe Z EL U'.vm U'.heap) ∧ Fr Z.heap.size L) ∧ CHr Z EL U.vm U.heap U'.vm U'.heap ∧ ReturnedEndW U o U' L rm.cells rm.slots)
theorem enter {l : Launch} {Z : State} {EL : List (String × Nat)} {y : MethodName} {bytes : ByteArray} {maxL : Nat} {ret : Option FieldType} {ws : List Jvm.Cond} {rm : Room} {sf : List Addr} {as' : Array Value} {h : Heap} {Q : Option Value → Heap → (Addr → Prop) → Prop} {a0 : Array Value} (hpl : plainName y.cls = true) (hEL : EW Z a0 EL) {Ls : Array Slot} (hef : ∀ m, entryFrame m as' maxL = mkF m 0 Ls [])
    (body : ∀ (κ : Cx) (vm : Vm) (T : State), κ.c.code = bytes → κ.s.heap = h → W κ l rm Z EL y.cls y.name maxL ret vm T h 0 0 → (∀ x ∈ sf, Safe Z EL vm h x) → Go κ (GQ κ Z EL rm Q) T 0 Ls []) : Ctr l Z EL y bytes maxL ret ws rm sf as' h Q := by
  refine MetFree.of_bodySF (plainFor_of_name hpl) hisR ?_
  intro p e s m args below meth c s₁ Bd hml hP hK
  obtain ⟨rfl, hZ, hh, hC, hSf⟩ := hP
  have hown : s.vm.findClass y.cls = some m.cls := findClass_of_methodNamed Bd.named
  have hnm := (name_of_methodNamed Bd.named Bd.method).1
  have X0 : Stand p l e rm s m args below meth c s₁ [] 0 0 := Stand.of_body Bd
  have e0 : s₁.heap = h := by rw [← hh, Bd.state]; rfl
  have w : W (p, e, s, m, args, below, meth, c) l rm Z EL y.cls y.name maxL ret s.vm s₁ h 0 0 :=
    ⟨⟨Bd.exec, hml, Bd.returns, Bd.notSynchronized, hnm, a0, hEL⟩, [], s.heap.size, X0, e0, (State.WarmedH.refl s).since _, by rw [hh]; exact Nat.le_refl _, hZ, hown, Fr.nil _, by rw [hh]; exact CHr.refl hC⟩
  obtain ⟨v, B, h1, h2, h3, L, h4, h5, h6⟩ := body (p, e, s, m, args, below, meth, c) s.vm s₁ Bd.bytes hh w hSf
  refine ⟨B, .returned v, castTop (hef m) h1, h2, h3, v, L, rfl, h4, h5, h6⟩
section Laws
variable {κ : Cx} {l : Launch} {R : Room} {Z : State} {EL : List (String × Nat)} {own nm : String} {mx : Nat} {rt : Option FieldType} {vm : Vm} {T : State} {h : Heap} {k n : Nat} {G : Option Value → State → Prop} {a0 : Array Value} {pc : Nat} {Ls : Array Slot} {st : List Value}
theorem W.ok (w : W κ l R Z EL own nm mx rt vm T h k n) : Ok κ T := by obtain ⟨w1, _, _, X, -⟩ := w; exact ⟨X.here, w1.1⟩
theorem W.chv (w : W κ l R Z EL own nm mx rt vm T h k n) : CHv Z EL vm h := by obtain ⟨w1, _, _, X, -, -, -, -, -, -, C⟩ := w; exact C.1
theorem W.warm (w : W κ l R Z EL own nm mx rt vm T h k n) : Z.Warmed39 vm := by obtain ⟨w1, _, _, X, -, -, -, hZ, -⟩ := w; exact hZ
theorem W.alike (w : W κ l R Z EL own nm mx rt vm T h k n) : Z.vm.Alike vm := w.warm.alike
theorem W.mono (w : W κ l R Z EL own nm mx rt vm T h k n) {k' n' : Nat} (hk : k ≤ k') (hn : n ≤ n') : W κ l R Z EL own nm mx rt vm T h k' n' := by
  obtain ⟨w1, L, k0, X, r⟩ := w; exact ⟨w1, L, k0, X.mono hk hn, r⟩
theorem W.heap (w : W κ l R Z EL own nm mx rt vm T h k n) : T.heap = h := by obtain ⟨w1, _, _, X, e, -⟩ := w; exact e
/-- all that stood at the case's start stands as it was -/
theorem W.old (w : W κ l R Z EL own nm mx rt vm T h k n) (o : Ext Z.heap κ.s.heap) : Ext Z.heap h := by
  obtain ⟨w1, L, k0, X, e, -, -, -, -, N, -⟩ := w
  subst e
  refine ⟨Nat.le_trans o.1 X.same.2.1, fun b cl hb => ?_⟩
  obtain ⟨c', h1, h2, -, h4⟩ := X.same.2.2.2.2.2 b cl (o.2 _ _ hb)
  have hlt := (Array.getElem?_eq_some_iff.mp hb).1
  have hsl : c'.slots = cl.slots := Array.ext_getElem? fun i => h4 i fun hm => absurd (N _ hm) (Nat.not_le.mpr hlt)
  have hcc : c' = cl := by rw [h2, hsl]
  rw [← hcc]; exact h1
/-- a step that keeps vm: the heap only grows -/
theorem W.grow {T' : State} {h' : Heap} {k' n' : Nat} (w : W κ l R Z EL own nm mx rt vm T h k n) (E : Ext h h') (eT : T'.heap = h') (hX : ∀ locs, Stand κ.p l κ.e R (κ.s.setVm vm) κ.m κ.a κ.b κ.M κ.c T locs k n → Stand κ.p l κ.e R (κ.s.setVm vm) κ.m κ.a κ.b κ.M κ.c T' locs k' n') : W κ l R Z EL own nm mx rt vm T' h' k' n' := by
  obtain ⟨w1, L, k0, X, e, hS, hk, hZ, ho, N, C⟩ := w
  exact ⟨w1, L, k0, hX L X, eT, hS, Nat.le_trans hk E.1, hZ, ho, N, C.trans (CHr.ext E C.1)⟩
theorem W.wrote {T' : State} {h' : Heap} {a : Addr} {sl : Nat} {v : Value} {locs : List Loc} {k0 : Nat} (w : W κ l R Z EL own nm mx rt vm T h k n) (hS : κ.s.Since vm k0) (hk : k0 ≤ h.size) (N : Fr Z.heap.size locs) (X : Stand κ.p l κ.e R (κ.s.setVm vm) κ.m κ.a κ.b κ.M κ.c T' (locs ++ [⟨a, sl⟩]) k n) (eT : T'.heap = h') (Wq : Wr h h' a sl v) (S : Safe Z EL vm h a) (ha : Z.heap.size ≤ a) : W κ l R Z EL own nm mx rt vm T' h' k n := by
  obtain ⟨w1, -, -, -, -, -, -, hZ, ho, -, C⟩ := w
  exact ⟨w1, _, k0, X, eT, hS, by rw [Wq.size]; exact hk, hZ, ho, Fr.snoc X N ha, C.trans (CHr.wr Wq S C.1)⟩
theorem W.new (w : W κ l R Z EL own nm mx rt vm T h k n) {C : String} {index sz : Nat} (w1 : (Cond.classLink own index C).before a0 Z = true) (w2 : (Cond.instantiable C sz).before a0 Z = true) (w3 : (Cond.initialized C).before a0 Z = true)
    (hd : decode κ.c.code pc = .ok (.new index, 3)) (hc : k + 1 ≤ R.cells) (hl : n + sz ≤ R.slots)
    (g : ∀ (T' : State) (h' : Heap) (x : Addr), W κ l R Z EL own nm mx rt vm T' h' (k + 1) (n + sz) → x = h.size → Ext h h' → Exa Z h' x C → (∀ {O nm' d : String} {ty : FieldType}, Laid Z a0 C O nm' d → parseFieldDescriptor d = some ty → Fld Z h' x O nm' d (defaultValue ty)) → Safe Z EL vm h' x → Go κ G T' (pc + 3) Ls (.ref x :: st)) : Go κ G T pc Ls st := by
  have w0 := w
  obtain ⟨q1, L, k0, X, e, hS, hk, hZ, ho, N, CC⟩ := w
  obtain ⟨T', h', X', e', E, A, D, -, stp⟩ := newO X q1.1 hZ ho w1 w2 w3 e (g := mkF κ.m pc Ls st) rfl hd hc hl
  exact Fx.via stp (g T' h' h.size ⟨q1, L, k0, X', e', hS, Nat.le_trans hk E.1, hZ, ho, N, CC.trans (CHr.ext E CC.1)⟩ rfl E A D (Safe.ext E w0.chv (Safe.new (Nat.le_refl _))))
theorem W.newarr (w : W κ l R Z EL own nm mx rt vm T h k n) {aty : ArrayType} (w1 : (Cond.arrayClass (newarray.typeOf aty)).before a0 Z = true) {z : Int32} {c : Nat} (hd : decode κ.c.code pc = .ok (.newarray aty, 2)) (hn : ¬ z < 0) (hz : z.toNatClampNeg = c) {cap : Nat} (hcap : c ≤ cap) (hb : cap * 8 ≤ 536870912) (hc : k + 1 ≤ R.cells) (hl : n + cap ≤ R.slots) (hdv : defaultValue (newarray.typeOf aty) = .int 0) (hf : fits (newarray.typeOf aty) (.int 0) = true)
    (g : ∀ (T' : State) (h' : Heap) (x : Addr), W κ l R Z EL own nm mx rt vm T' h' (k + 1) (n + cap) → x = h.size → Ext h h' → Ary Z h' x (newarray.typeOf aty) (List.replicate c 0) → Safe Z EL vm h' x → Go κ G T' (pc + 2) Ls (.ref x :: st)) : Go κ G T pc Ls (.int z :: st) := by
  have w0 := w
  obtain ⟨q1, L, k0, X, e, hS, hk, hZ, ho, N, CC⟩ := w
  obtain ⟨T', h', cA, X', e', E, A, stp⟩ := newP X q1.1 hZ w1 e (g := mkF κ.m pc Ls (.int z :: st)) rfl hd rfl hn (by rw [hz]; exact hcap) hb hc hl
  exact Fx.via stp (g T' h' h.size ⟨q1, L, k0, X', e', hS, Nat.le_trans hk E.1, hZ, ho, N, CC.trans (CHr.ext E CC.1)⟩ rfl E (Ary.new A hz (by omega) hdv hf) (Safe.ext E w0.chv (Safe.new (Nat.le_refl _))))
theorem W.get (w : W κ l R Z EL own nm mx rt vm T h k n) {O f d : String} {index : Nat} (w1 : (Cond.fieldLink own index O f d).before a0 Z = true) {a : Addr} {v : Value} (F : Fld Z h a O f d v) (hd : decode κ.c.code pc = .ok (.getfield index, 3))
    (g : ∀ T' : State, W κ l R Z EL own nm mx rt vm T' h k n → Go κ G T' (pc + 3) Ls (v :: st)) : Go κ G T pc Ls (.ref a :: st) := by
  obtain ⟨q1, L, k0, X, e, hS, hk, hZ, ho, N, CC⟩ := w
  obtain ⟨T', X', e', stp⟩ := getF X q1.1 hZ ho (host := "") (Or.inl w1) Via.refl e F (g := mkF κ.m pc Ls (.ref a :: st)) rfl rfl hd
  exact Fx.via stp (g T' ⟨q1, L, k0, X', e', hS, hk, hZ, ho, N, CC⟩)
theorem W.gets (w : W κ l R Z EL own nm mx rt vm T h k n) {O f d : String} {index : Nat} (w1 : (Cond.fieldLink own index O f d).before a0 Z = true) {v : Value} (F : Sta Z h O f d v) (hd : decode κ.c.code pc = .ok (.getstatic index, 3))
    (g : ∀ T' : State, W κ l R Z EL own nm mx rt vm T' h k n → Go κ G T' (pc + 3) Ls (v :: st)) : Go κ G T pc Ls st := by
  obtain ⟨q1, L, k0, X, e, hS, hk, hZ, ho, N, CC⟩ := w
  obtain ⟨T', X', e', stp⟩ := getS X q1.1 hZ ho (host := "") w1 Via.refl e F (g := mkF κ.m pc Ls st) rfl hd
  exact Fx.via stp (g T' ⟨q1, L, k0, X', e', hS, hk, hZ, ho, N, CC⟩)
theorem W.put (w : W κ l R Z EL own nm mx rt vm T h k n) {O f d C : String} {index kk : Nat} {ty : FieldType} (w1 : (Cond.fieldLink own index O f d).before a0 Z = true) {a : Addr} {v old : Value} (F : Fld Z h a O f d old) (E : Exa Z h a C) (Lw : (Cond.lays C O f d).before a0 Z = true ∨ ((Cond.laysFinal C O f d).before a0 Z = true ∧ own = O ∧ nm = "<init>")) (wi : (Cond.instantiable C kk).before a0 Z = true)
    (hty : parseFieldDescriptor d = some ty) (hn : narrow ty v = v) (hf : fits ty v = true) (S : Safe Z EL vm h a) (ha : Z.heap.size ≤ a) (hd : decode κ.c.code pc = .ok (.putfield index, 3))
    (g : ∀ (T' : State) (h' : Heap), W κ l R Z EL own nm mx rt vm T' h' k n → Wr h h' a (RoadKit.slotOf Z O f d) v → Safe Z EL vm h' a → Go κ G T' (pc + 3) Ls st) : Go κ G T pc Ls (v :: .ref a :: st) := by
  have w0 := w
  obtain ⟨q1, L, k0, X, e, hS, hk, hZ, ho, N, CC⟩ := w
  obtain ⟨T', h', X', e', Wq, stp⟩ := putF X q1.1 hZ ho (host := "") (Or.inl w1) Via.refl e F E (Lw.imp id fun q => ⟨q.1, q.2.1, by rw [q1.2.2.2.2.1]; exact q.2.2⟩) wi hty hn hf (g := mkF κ.m pc Ls (v :: .ref a :: st)) rfl rfl hd
  exact Fx.via stp (g T' h' (w0.wrote hS hk N X' e' Wq S ha) Wq (Safe.wr Wq S w0.chv S))
theorem W.cst (w : W κ l R Z EL own nm mx rt vm T h k n) {a : Addr} {vs : List Int32} (A : Ary Z h a .char vs) {i : Nat} {j x x' : Int32} (hj : j = Int32.ofNat i) (hi : i < vs.length) (hx : nar .char x = x') (hf : fits .char (.int x') = true) (ha : Z.heap.size ≤ a) (hd : decode κ.c.code pc = .ok (.castore, 1))
    (g : ∀ (T' : State) (h' : Heap), W κ l R Z EL own nm mx rt vm T' h' k n → (∃ sl v, Wr h h' a sl v) → Ary Z h' a .char (vs.set i x') → Go κ G T' (pc + 1) Ls st) : Go κ G T pc Ls (.int x :: .int j :: .ref a :: st) := by
  have w0 := w
  have A0 := A
  subst hj hx
  obtain ⟨q1, L, k0, X, e, hS, hk, hZ, ho, N, CC⟩ := w
  obtain ⟨c, A1, r1, r2, -⟩ := A
  obtain ⟨T', h', X', e', Wq, stp⟩ := stC X q1.1 hZ e A1 (Ary.inb r1 r2 hi) (g := mkF κ.m pc Ls (.int x :: .int (Int32.ofNat i) :: .ref a :: st)) rfl rfl hd
  exact Fx.via stp (g T' h' (w0.wrote hS hk N X' e' Wq (A0.safe w0.alike (by decide)) ha) ⟨_, _, Wq⟩ (A0.set hi hf Wq))
theorem W.bst (w : W κ l R Z EL own nm mx rt vm T h k n) {a : Addr} {vs : List Int32} (A : Ary Z h a .byte vs) {i : Nat} {j x x' : Int32} (hj : j = Int32.ofNat i) (hi : i < vs.length) (hx : nar .byte x = x') (hf : fits .byte (.int x') = true) (S : Safe Z EL vm h a) (ha : Z.heap.size ≤ a) (hd : decode κ.c.code pc = .ok (.bastore, 1))
    (g : ∀ (T' : State) (h' : Heap), W κ l R Z EL own nm mx rt vm T' h' k n → (∃ sl v, Wr h h' a sl v) → Ary Z h' a .byte (vs.set i x') → Safe Z EL vm h' a → Go κ G T' (pc + 1) Ls st) : Go κ G T pc Ls (.int x :: .int j :: .ref a :: st) := by
  have w0 := w
  have A0 := A
  subst hj hx
  obtain ⟨q1, L, k0, X, e, hS, hk, hZ, ho, N, CC⟩ := w
  obtain ⟨c, A1, r1, r2, -⟩ := A
  obtain ⟨T', h', X', e', Wq, stp⟩ := stB X q1.1 hZ e A1 (Ary.inb r1 r2 hi) (g := mkF κ.m pc Ls (.int x :: .int (Int32.ofNat i) :: .ref a :: st)) rfl rfl hd
  exact Fx.via stp (g T' h' (w0.wrote hS hk N X' e' Wq S ha) ⟨_, _, Wq⟩ (A0.set hi hf Wq) (Safe.wr Wq S w0.chv S))
theorem W.ist (w : W κ l R Z EL own nm mx rt vm T h k n) {a : Addr} {vs : List Int32} (A : Ary Z h a .int vs) {i : Nat} {j x : Int32} (hj : j = Int32.ofNat i) (hi : i < vs.length) (ha : Z.heap.size ≤ a) (hd : decode κ.c.code pc = .ok (.iastore, 1))
    (g : ∀ (T' : State) (h' : Heap), W κ l R Z EL own nm mx rt vm T' h' k n → (∃ sl v, Wr h h' a sl v) → Ary Z h' a .int (vs.set i x) → Go κ G T' (pc + 1) Ls st) : Go κ G T pc Ls (.int x :: .int j :: .ref a :: st) := by
  have w0 := w
  have A0 := A
  subst hj
  obtain ⟨q1, L, k0, X, e, hS, hk, hZ, ho, N, CC⟩ := w
  obtain ⟨c, A1, r1, r2, -⟩ := A
  obtain ⟨T', h', X', e', Wq, stp⟩ := stI X q1.1 hZ e A1 (Ary.inb r1 r2 hi) (g := mkF κ.m pc Ls (.int x :: .int (Int32.ofNat i) :: .ref a :: st)) rfl rfl hd
  exact Fx.via stp (g T' h' (w0.wrote hS hk N X' e' Wq (A0.safe w0.alike (by decide)) ha) ⟨_, _, Wq⟩ (A0.set hi rfl Wq))
theorem W.len (w : W κ l R Z EL own nm mx rt vm T h k n) {a : Addr} {ty : FieldType} {vs : List Int32} (A : Ary Z h a ty vs) (hd : decode κ.c.code pc = .ok (.arraylength, 1)) (g : Go κ G T (pc + 1) Ls (.int (Int32.ofNat vs.length) :: st)) : Go κ G T pc Ls (.ref a :: st) := by
  obtain ⟨q1, L, k0, X, e, hS, hk, hZ, ho, N, CC⟩ := w
  obtain ⟨c, A1, r1, r2, -⟩ := A
  have hz : c.slots.size = vs.length := by
    have := congrArg List.length r1
    simpa using this
  refine Fx.via (fun t z => X.arraylength q1.1 (cell := c) (by rw [e]; exact A1.1) (State.isArrayOf_alike hZ.alike A1.2.1) (g := mkF κ.m pc Ls (.ref a :: st)) rfl rfl hd t ?_) g
  rw [hz]; exact z
theorem W.cld (w : W κ l R Z EL own nm mx rt vm T h k n) {a : Addr} {vs : List Int32} (A : Ary Z h a .char vs) {i : Nat} {j x : Int32} (hj : j = Int32.ofNat i) (hx : vs[i]? = some x) (hd : decode κ.c.code pc = .ok (.caload, 1)) (g : Go κ G T (pc + 1) Ls (.int x :: st)) : Go κ G T pc Ls (.int j :: .ref a :: st) := by
  subst hj
  obtain ⟨q1, L, k0, X, e, hS, hk, hZ, ho, N, CC⟩ := w
  obtain ⟨c, A1, r1, r2, -⟩ := A
  have hi : i < vs.length := (List.getElem?_eq_some_iff.mp hx).1
  exact Fx.via (fun t z => X.caload q1.1 (cell := c) (by rw [e]; exact A1.1) (State.isArrayOf_alike hZ.alike A1.2.1) A1.2.2 (Ary.inb r1 r2 hi) (Ary.at r1 r2 hi hx) (g := mkF κ.m pc Ls (.int (Int32.ofNat i) :: .ref a :: st)) rfl rfl hd t z) g
theorem W.bld (w : W κ l R Z EL own nm mx rt vm T h k n) {a : Addr} {vs : List Int32} (A : Ary Z h a .byte vs) {i : Nat} {j x : Int32} (hj : j = Int32.ofNat i) (hx : vs[i]? = some x) (hd : decode κ.c.code pc = .ok (.baload, 1)) (g : Go κ G T (pc + 1) Ls (.int x :: st)) : Go κ G T pc Ls (.int j :: .ref a :: st) := by
  subst hj
  obtain ⟨q1, L, k0, X, e, hS, hk, hZ, ho, N, CC⟩ := w
  obtain ⟨c, A1, r1, r2, -⟩ := A
  have hi : i < vs.length := (List.getElem?_eq_some_iff.mp hx).1
  exact Fx.via (fun t z => X.baloadBytes q1.1 (cell := c) (by rw [e]; exact A1.1) (State.isArrayOf_alike hZ.alike A1.2.1) A1.2.2 (Ary.inb r1 r2 hi) (Ary.at r1 r2 hi hx) (g := mkF κ.m pc Ls (.int (Int32.ofNat i) :: .ref a :: st)) rfl rfl hd t z) g
theorem W.ild (w : W κ l R Z EL own nm mx rt vm T h k n) {a : Addr} {vs : List Int32} (A : Ary Z h a .int vs) {i : Nat} {j x : Int32} (hj : j = Int32.ofNat i) (hx : vs[i]? = some x) (hd : decode κ.c.code pc = .ok (.iaload, 1)) (g : Go κ G T (pc + 1) Ls (.int x :: st)) : Go κ G T pc Ls (.int j :: .ref a :: st) := by
  subst hj
  obtain ⟨q1, L, k0, X, e, hS, hk, hZ, ho, N, CC⟩ := w
  obtain ⟨c, A1, r1, r2, -⟩ := A
  have hi : i < vs.length := (List.getElem?_eq_some_iff.mp hx).1
  exact Fx.via (fun t z => X.iaload q1.1 (cell := c) (by rw [e]; exact A1.1) (State.isArrayOf_alike hZ.alike A1.2.1) A1.2.2 (Ary.inb r1 r2 hi) (Ary.at r1 r2 hi hx) (g := mkF κ.m pc Ls (.int (Int32.ofNat i) :: .ref a :: st)) rfl rfl hd t z) g
theorem W.ldcI (w : W κ l R Z EL own nm mx rt vm T h k n) {index : Nat} {v : Int32} (w1 : (Cond.constant own index v).before a0 Z = true) (hd : decode κ.c.code pc = .ok (.ldc index, 2)) (g : Go κ G T (pc + 2) Ls (.int v :: st)) : Go κ G T pc Ls st := by
  obtain ⟨q1, L, k0, X, e, hS, hk, hZ, ho, N, CC⟩ := w
  exact Fx.via (fun t z => Stand.ldcI X q1.1 ho (mv (s := κ.s.setVm vm) hZ w1) (g := mkF κ.m pc Ls st) rfl hd z) g
theorem W.ldcO (w : W κ l R Z EL own nm mx rt vm T h k n) {text : String} {index : Nat} (w1 : (Cond.stringLink own index text).before a0 Z = true) (wS : ∀ a ∈ Bundle.stringAtoms, a.before a0 Z = true) (hEL : EW Z a0 EL) (hd : decode κ.c.code pc = .ok (.ldc index, 2)) {c : Nat} (hn : 4 * text.toList.length ≤ c) (hbig : c ≤ 536870912) (hc : k + 2 ≤ R.cells) (hl : n + (c + 4) ≤ R.slots)
    (g : ∀ (vm' : Vm) (T' : State) (h' : Heap) (a : Addr), W κ l R Z EL own nm mx rt vm' T' h' (k + 2) (n + (c + 4)) → Ext h h' → CHr Z EL vm h vm' h' → Go κ G T' (pc + 2) Ls (.ref a :: st)) : Go κ G T pc Ls st := by
  obtain ⟨q1, L, k0, X, e, hS, hk, hZ, ho, N, CC⟩ := w
  obtain ⟨a, T', h', k1, X', e', E, hS', hk', hW, hf, C', -, stp⟩ := ldcOH X q1.1 hZ ho w1 wS e hS hk hEL CC.1 (g := mkF κ.m pc Ls st) rfl hd hn hbig hc hl
  exact Fx.via stp (g T'.vm T' h' a ⟨q1, L, k1, X', e', hS', hk', hW, hf, N, CC.trans C'⟩ E C')
theorem W.ldcC (w : W κ l R Z EL own nm mx rt vm T h k n) {text : String} {index : Nat} (w1 : (Cond.stringLink own index text).before a0 Z = true) (wS : ∀ a ∈ Bundle.stringAtoms, a.before a0 Z = true) (hEL : EW Z a0 EL) (hmem : (own, index) ∈ EL) {vs : List Int32} (ht : (∀ c ∈ text.toList, c.toNat < 256) ∧ text.toList.map (fun c => Value.int (Jvm.Lit.byteI c.toNat.toUInt16)) = vs.map Value.int) (hlen : vs.length < 2147483648) (hd : decode κ.c.code pc = .ok (.ldc index, 2)) {c : Nat} (hn : 4 * text.toList.length ≤ c) (hbig : c ≤ 536870912) (hc : k + 2 ≤ R.cells) (hl : n + (c + 4) ≤ R.slots)
    (g : ∀ (vm' : Vm) (T' : State) (h' : Heap) (a b : Addr), W κ l R Z EL own nm mx rt vm' T' h' (k + 2) (n + (c + 4)) → Ext h h' → CHr Z EL vm h vm' h' → Exa Z h' a "java/lang/String" → Fld Z h' a "java/lang/String" "coder" "B" (.int 0) → Fld Z h' a "java/lang/String" "value" "[B" (.ref b) → Ary Z h' b .byte vs → (∀ x, Safe Z EL vm' h' x → x ≠ a ∧ x ≠ b) → Go κ G T' (pc + 2) Ls (.ref a :: st)) : Go κ G T pc Ls st := by
  obtain ⟨q1, L, k0, X, e, hS, hk, hZ, ho, N, CC⟩ := w
  obtain ⟨a, T', h', k1, b, kk, X', e', E, hS', hk', hW, hf, F1, F2, F3, F4, -, -, C', -, F5, stp⟩ := ldcCH X q1.1 hZ ho w1 wS e hS hk hEL hmem CC.1 ht (z := Int32.ofNat vs.length) (nneg_ofNat hlen) (by rw [clamp_ofNat hlen]; simp) (g := mkF κ.m pc Ls st) rfl hd hn hbig hc hl
  exact Fx.via stp (g T'.vm T' h' a b ⟨q1, L, k1, X', e', hS', hk', hW, hf, N, CC.trans C'⟩ E C' F1 F2 F3 (Ary.of_arv (by rw [clamp_ofNat hlen]) F4) F5)
theorem W.initO (w : W κ l R Z EL own nm mx rt vm T h k n) {idx : Nat} (w1 : (Cond.methodLink own idx Lib.objectInit).before a0 Z = true) (w2 : (Cond.instanceMethod Lib.objectInit).before a0 Z = true) (w3 : (Cond.code Lib.objectInit ⟨#[0xb1]⟩ 1 none).before a0 Z = true) {a : Addr} (hsz : Ls.size = mx) (hd : decode κ.c.code pc = .ok (.invokespecial idx, 3)) (hf : 1 ≤ R.frames) {Wd : Nat} (hW : (st.map fun v => v.category).sum ≤ Wd) (hl : Wd + 12 ≤ R.locals)
    (g : ∀ T' : State, W κ l R Z EL own nm mx rt vm T' h k n → Go κ G T' (pc + 3) Ls st) : Go κ G T pc Ls (.ref a :: st) := by
  obtain ⟨q1, L, k0, X, e, hS, hk, hZ, ho, N, CC⟩ := w
  obtain ⟨T', X', e', stp⟩ := RoadKit.initO X q1.1 hZ ho w1 w2 w3 e (g := mkF κ.m pc Ls (.ref a :: st)) rfl (by rw [q1.2.1]; exact hsz) rfl hd hf (W := Wd) (by show 2 * 0 + _ ≤ _; omega) hl
  exact Fx.via stp (g T' ⟨q1, L, k0, X', e', hS, hk, hZ, ho, N, CC⟩)
/-- what a call asks of its callee -/
abbrev BB (κ : Cx) (l : Launch) (R : Room) (Z : State) (EL : List (String × Nat)) (vm : Vm) (h : Heap) (y : MethodName) (len Wd : Nat) (as' : Array Value) (rc rs : Nat) (Q : Option Value → Heap → (Addr → Prop) → Prop) : Prop :=
  BackS l R κ.p κ.e κ.b (κ.s.setVm vm) κ.a y len Wd (fun A a => a = as' ∧ A.U.heap = h ∧ A.cells + rc ≤ R.cells ∧ A.slots + rs ≤ R.slots)
      (fun A _ v B => ∃ L, (Q v B.U.heap (Safe Z EL B.U.vm B.U.heap) ∧ Fr Z.heap.size L) ∧ B.locs = A.locs ++ L ∧ B.cells = A.cells + rc ∧ B.slots = A.slots + rs ∧ CHr Z EL vm h B.U.vm B.U.heap)
theorem Ctr.pays {y : MethodName} {bytes : ByteArray} {maxL : Nat} {ret : Option FieldType} {rm : Room} {sf : List Addr} {as' : Array Value} {Q : Option Value → Heap → (Addr → Prop) → Prop} {len Wd : Nat} (C : Ctr l Z EL y bytes maxL ret [] rm sf as' h Q) (w : W κ l R Z EL own nm mx rt vm T h k n)
    (wc : (Cond.code y bytes maxL ret).before a0 Z = true) (wz : (Cond.initialized y.cls).before a0 Z = true) (hEL : EW Z a0 EL) (hf : rm.frames + 1 ≤ R.frames) (hl : Wd + (maxL + 11) + rm.locals ≤ R.locals) (hsf : ∀ x ∈ sf, x < h.size ∧ Safe Z EL vm h x) : BB κ l R Z EL vm h y len Wd as' rm.cells rm.slots Q :=
  BackS.of_freeW (bytes := bytes) (maxL := maxL) (ret := ret) (E := fun _ first o t L k n => k = rm.cells ∧ n = rm.slots ∧ (∃ v, o = .returned v ∧ (Q v t.heap (Safe Z EL t.vm t.heap) ∧ Fr Z.heap.size L)) ∧ CHr Z EL first.vm first.heap t.vm t.heap) C hf hl
    (fun m meth c A a Y hp => have hU : Z.Warmed39 A.U.vm := wtrans (s := κ.s.setVm vm) w.warm Y.warmed
      ⟨by show (Cond.and _ .tt).before a A.U = true; rw [Cond.before_and, mv hU wc]; rfl, mv hU wc, mv hU wz, hp.2.2.1, hp.2.2.2⟩)
    (fun m meth c A a g mk Y hp => ⟨hp.1, wtrans (s := κ.s.setVm vm) w.warm Y.warmed, hp.2.1, (CHv.at Y w.warm hEL w.chv).1, fun x hx => (CHv.at Y w.warm hEL w.chv).safe (hsf x hx).1 (hsf x hx).2⟩) (fun _ _ _ _ _ _ _ _ _ => trivial)
    (fun _ _ _ _ ⟨v, L, h1, h2, h3, h4⟩ => ⟨L, _, _, h4, rfl, rfl, ⟨v, h1, h2⟩, h3⟩)
    (fun m meth c A a g mk v t L k n Y hp _ _ ⟨e1, e2, ⟨v', e3, e4⟩, e5⟩ => by
      cases e3; subst e1 e2
      refine ⟨L, e4, rfl, rfl, rfl, (CHv.at Y w.warm hEL w.chv).trans ?_⟩
      rw [← hp.2.1]; exact e5)
theorem sfNil {vm : Vm} {h : Heap} : ∀ x ∈ ([] : List Addr), x < h.size ∧ Safe Z EL vm h x := fun _ q => nomatch q
theorem sfOne {vm : Vm} {h : Heap} {a : Addr} (h1 : a < h.size) (h2 : Safe Z EL vm h a) : ∀ x ∈ [a], x < h.size ∧ Safe Z EL vm h x := fun x q => by rw [List.mem_singleton.mp q]; exact ⟨h1, h2⟩
/-- a narrow payer (it interns nothing, and writes at most ws of what was there) -/
theorem BB.of_back {y : MethodName} {len Wd : Nat} {as' : Array Value} {rc rs : Nat} {Q0 : Option Value → Heap → List Loc → Prop} {Q : Option Value → Heap → (Addr → Prop) → Prop} (w : W κ l R Z EL own nm mx rt vm T h k n) (hEL : EW Z a0 EL)
    (hB : Back l R κ.p κ.e κ.b (κ.s.setVm vm) κ.a y len Wd (fun A a => a = as' ∧ A.U.heap = h ∧ A.cells + rc ≤ R.cells ∧ A.slots + rs ≤ R.slots) (fun A _ v B => ∃ L, Q0 v B.U.heap L ∧ B.locs = A.locs ++ L ∧ B.cells = A.cells + rc ∧ B.slots = A.slots + rs)) {ws : List Addr} (hs : ∀ x ∈ ws, Safe Z EL vm h x)
    (hQ : ∀ v h' L S, Q0 v h' L → Q v h' S ∧ Fr Z.heap.size L ∧ Keep h h' ws) : BB κ l R Z EL vm h y len Wd as' rc rs Q := by
  intro m meth c A g ig mk a X hg hsize hdg hW hn hp
  obtain ⟨v, B, X', ⟨L, h1, h2, h3, h4⟩, hsteps⟩ := hB m meth c A g ig mk a X hg hsize hdg hW hn hp
  obtain ⟨q1, q2, q3⟩ := hQ v B.U.heap L (Safe Z EL B.U.vm B.U.heap) h1
  refine ⟨v, B, X'.retabled X'.warmed.wide, X'.warmed.since _, by rw [hp.2.1]; exact q3.1, ⟨L, ⟨q1, q2⟩, h2, h3, h4, ?_⟩, hsteps⟩
  exact (CHr.keep q3 hs w.chv).trans (CHv.at X' w.warm hEL (w.chv.keep q3 hs))
theorem W.back (w : W κ l R Z EL own nm mx rt vm T h k n) {T' : State} {locs L : List Loc} {k' n' : Nat} (hk0 : ∃ k0, κ.s.Since vm k0 ∧ k0 ≤ h.size) (N : Fr Z.heap.size locs) (X' : Stand κ.p l κ.e R ((κ.s.setVm vm).setVm T'.vm) κ.m κ.a κ.b κ.M κ.c T' (locs ++ L) k' n') (hS : (κ.s.setVm vm).Since T'.vm T'.heap.size) (hgr : h.size ≤ T'.heap.size) (NL : Fr Z.heap.size L) (C : CHr Z EL vm h T'.vm T'.heap) : W κ l R Z EL own nm mx rt T'.vm T' T'.heap k' n' := by
  obtain ⟨w1, -, -, -, -, -, -, hZ, ho, -, CC⟩ := w
  obtain ⟨k0, hS0, hk⟩ := hk0
  obtain ⟨Y, hS', hZ', ho'⟩ := rebS (own := own) hS0 hk X' hS hgr hZ ho
  exact ⟨w1, _, _, Y, rfl, hS', Nat.le_refl _, hZ', ho', N.app NL, CC.trans C⟩
theorem W.callS (w : W κ l R Z EL own nm mx rt vm T h k n) {y : MethodName} {bytes : ByteArray} {maxL : Nat} {ret : Option FieldType} {index : Nat} (w1 : (Cond.methodLink own index y).before a0 Z = true) (w2 : (Cond.static y).before a0 Z = true) (w3 : (Cond.initialized y.cls).before a0 Z = true) (w4 : (Cond.code y bytes maxL ret).before a0 Z = true) (hy : y.cls ≠ "java/lang/invoke/MethodHandle" ∧ y.cls ≠ "java/lang/invoke/VarHandle")
    {argsL : List Value} {rc rs Wd : Nat} {Q : Option Value → Heap → (Addr → Prop) → Prop} (hK : BB κ l R Z EL vm h y 3 Wd argsL.toArray rc rs Q) {ps : List FieldType} {r0 : Option FieldType} (hde : parseMethodDescriptor y.desc = some ⟨ps, r0⟩) (hlen : argsL.length = ps.length) {st0 : List Value} (hst : st0 = argsL.reverse ++ st) (hsz : Ls.size = mx) (hW : (st.map fun v => v.category).sum ≤ Wd) (hd : decode κ.c.code pc = .ok (.invokestatic index, 3)) (hc : k + rc ≤ R.cells) (hl : n + rs ≤ R.slots)
    (g : ∀ (vm' : Vm) (T' : State) (h' : Heap) (v : Option Value), W κ l R Z EL own nm mx rt vm' T' h' (k + rc) (n + rs) → CHr Z EL vm h vm' h' → Q v h' (Safe Z EL vm' h') → Go κ G T' (pc + 3) Ls (v.toList ++ st)) : Go κ G T pc Ls st0 := by
  have w0 := w
  subst hst
  obtain ⟨q1, L, k0, X, e, hS, hk, hZ, ho, N, CC⟩ := w
  obtain ⟨v, vm₁, ⟨T', L', k', n'⟩, -, X', hS', hgr, ⟨L2, ⟨hQ, NL⟩, p1, p2, p3, p4⟩, stp⟩ := callSS X q1.1 ho (mvT (s := κ.s.setVm vm) hZ w1) (mvT (s := κ.s.setVm vm) hZ w2) (mvT (s := κ.s.setVm vm) hZ w3) (mvT (s := κ.s.setVm vm) hZ w4) hy hK (g := mkF κ.m pc Ls (argsL.reverse ++ st)) rfl (by rw [q1.2.1]; exact hsz) (argsL := argsL) (rest := st) (lenOf hde hlen) rfl (by show 2 * 0 + _ ≤ _; omega) hd (fun _ _ => ⟨rfl, e, hc, hl⟩)
  dsimp only [Pt.U, Pt.locs, Pt.cells, Pt.slots] at X' hS' hgr hQ p1 p2 p3 p4 stp
  subst p1 p2 p3
  exact Fx.after stp (g T'.vm T' T'.heap v (w0.back ⟨k0, hS, hk⟩ N X' hS' (by rw [← e]; exact hgr) NL p4) p4 hQ)
theorem W.callI (w : W κ l R Z EL own nm mx rt vm T h k n) {y : MethodName} {bytes : ByteArray} {maxL : Nat} {index : Nat} (hy1 : y.name = "<init>") (w1 : (Cond.methodLink own index y).before a0 Z = true) (w2 : (Cond.instanceMethod y).before a0 Z = true) (w4 : (Cond.code y bytes maxL none).before a0 Z = true) (hy : y.cls ≠ "java/lang/invoke/MethodHandle" ∧ y.cls ≠ "java/lang/invoke/VarHandle")
    {a : Addr} {argsL : List Value} {rc rs Wd : Nat} {Q : Option Value → Heap → (Addr → Prop) → Prop} (hK : BB κ l R Z EL vm h y 3 Wd (.ref a :: argsL).toArray rc rs Q) {ps : List FieldType} {r0 : Option FieldType} (hde : parseMethodDescriptor y.desc = some ⟨ps, r0⟩) (hlen : argsL.length = ps.length) {st0 : List Value} (hst : st0 = argsL.reverse ++ .ref a :: st) (hsz : Ls.size = mx) (hW : (st.map fun v => v.category).sum ≤ Wd) (hd : decode κ.c.code pc = .ok (.invokespecial index, 3)) (hc : k + rc ≤ R.cells) (hl : n + rs ≤ R.slots)
    (g : ∀ (vm' : Vm) (T' : State) (h' : Heap) (v : Option Value), W κ l R Z EL own nm mx rt vm' T' h' (k + rc) (n + rs) → CHr Z EL vm h vm' h' → Q v h' (Safe Z EL vm' h') → Go κ G T' (pc + 3) Ls (v.toList ++ st)) : Go κ G T pc Ls st0 := by
  have w0 := w
  subst hst
  obtain ⟨q1, L, k0, X, e, hS, hk, hZ, ho, N, CC⟩ := w
  obtain ⟨v, vm₁, ⟨T', L', k', n'⟩, -, X', hS', hgr, ⟨L2, ⟨hQ, NL⟩, p1, p2, p3, p4⟩, stp⟩ := X.specialBackS q1.1 hy1 ho (mvT (s := κ.s.setVm vm) hZ w1) (mvT (s := κ.s.setVm vm) hZ w2) (mvT (s := κ.s.setVm vm) hZ w4) hy hK (g := mkF κ.m pc Ls (argsL.reverse ++ .ref a :: st)) rfl (by rw [q1.2.1]; exact hsz) (Steps.refl _) (a := a) (argsL := argsL) (rest := st) (lenOf hde hlen) rfl (by show 2 * 0 + _ ≤ _; omega) hd (fun _ _ => ⟨rfl, e, hc, hl⟩)
  dsimp only [Pt.U, Pt.locs, Pt.cells, Pt.slots] at X' hS' hgr hQ p1 p2 p3 p4 stp
  subst p1 p2 p3
  exact Fx.after stp (g T'.vm T' T'.heap v (w0.back ⟨k0, hS, hk⟩ N X' hS' (by rw [← e]; exact hgr) NL p4) p4 hQ)
theorem W.callV (w : W κ l R Z EL own nm mx rt vm T h k n) {y z : MethodName} {C : String} {index : Nat} (w1 : (Cond.methodLink own index y).before a0 Z = true) (w2 : (Cond.declares y).before a0 Z = true) (hnf : ∀ s : State, Z.Warmed39 s.vm → NotFace s y) (w3 : (Cond.selects C y z).before a0 Z = true) (w4 : (Cond.instanceMethod z).before a0 Z = true) (hy : y.cls ≠ "java/lang/invoke/MethodHandle" ∧ y.cls ≠ "java/lang/invoke/VarHandle")
    {a : Addr} (E : Exa Z h a C) {argsL : List Value} {rc rs Wd : Nat} {Q : Option Value → Heap → (Addr → Prop) → Prop} (hK : BB κ l R Z EL vm h z 3 Wd (.ref a :: argsL).toArray rc rs Q) {ps : List FieldType} {r0 : Option FieldType} (hde : parseMethodDescriptor y.desc = some ⟨ps, r0⟩) (hlen : argsL.length = ps.length) {st0 : List Value} (hst : st0 = argsL.reverse ++ .ref a :: st) (hsz : Ls.size = mx) (hW : (st.map fun v => v.category).sum ≤ Wd) (hd : decode κ.c.code pc = .ok (.invokevirtual index, 3)) (hc : k + rc ≤ R.cells) (hl : n + rs ≤ R.slots)
    (g : ∀ (vm' : Vm) (T' : State) (h' : Heap) (v : Option Value), W κ l R Z EL own nm mx rt vm' T' h' (k + rc) (n + rs) → CHr Z EL vm h vm' h' → Q v h' (Safe Z EL vm' h') → Go κ G T' (pc + 3) Ls (v.toList ++ st)) : Go κ G T pc Ls st0 := by
  have w0 := w
  subst hst
  obtain ⟨q1, L, k0, X, e, hS, hk, hZ, ho, N, CC⟩ := w
  obtain ⟨cB, kB, i1, i2, i3⟩ := isOf (s := κ.s.setVm vm) hZ e E
  obtain ⟨v, vm₁, ⟨T', L', k', n'⟩, -, X', hS', hgr, ⟨L2, ⟨hQ, NL⟩, p1, p2, p3, p4⟩, stp⟩ := X.virtualBackS q1.1 ho (mvT (s := κ.s.setVm vm) hZ w1) (mvT (s := κ.s.setVm vm) hZ w2) (hnf (κ.s.setVm vm) hZ) (mvT (s := κ.s.setVm vm) hZ w3) (mvT (s := κ.s.setVm vm) hZ w4) hy hK i1 i3 (g := mkF κ.m pc Ls (argsL.reverse ++ .ref a :: st)) rfl (by rw [q1.2.1]; exact hsz) (Steps.refl _) (argsL := argsL) (rest := st) (lenOf hde hlen) rfl (by show 2 * 0 + _ ≤ _; omega) hd (fun _ _ => ⟨rfl, e, hc, hl⟩)
  dsimp only [Pt.U, Pt.locs, Pt.cells, Pt.slots] at X' hS' hgr hQ p1 p2 p3 p4 stp
  subst p1 p2 p3
  exact Fx.after stp (g T'.vm T' T'.heap v (w0.back ⟨k0, hS, hk⟩ N X' hS' (by rw [← e]; exact hgr) NL p4) p4 hQ)
theorem notFace {y : MethodName} {C : String} (w3 : (Cond.selects C y y).before a0 Z = true) : ∀ s : State, Z.Warmed39 s.vm → NotFace s y := fun s hZ => notFace_of_selects (args := #[]) (mvT hZ w3)
theorem W.instY (w : W κ l R Z EL own nm mx rt vm T h k n) {K : String} {index : Nat} (w1 : (Cond.classLink own index K).before a0 Z = true) {a : Addr} (F : Ins Z h a K true) (hd : decode κ.c.code pc = .ok (.instanceof index, 3))
    (g : ∀ T' : State, W κ l R Z EL own nm mx rt vm T' h k n → Go κ G T' (pc + 3) Ls (.int 1 :: st)) : Go κ G T pc Ls (.ref a :: st) := by
  obtain ⟨q1, L, k0, X, e, hS, hk, hZ, ho, N, CC⟩ := w
  obtain ⟨T', X', e', stp⟩ := RoadKit.instY X q1.1 hZ ho w1 e F (g := mkF κ.m pc Ls (.ref a :: st)) rfl rfl hd
  exact Fx.via stp (g T' ⟨q1, L, k0, X', e', hS, hk, hZ, ho, N, CC⟩)
theorem W.castY (w : W κ l R Z EL own nm mx rt vm T h k n) {K : String} {index : Nat} (w1 : (Cond.classLink own index K).before a0 Z = true) {a : Addr} (F : Ins Z h a K true) (hd : decode κ.c.code pc = .ok (.checkcast index, 3))
    (g : ∀ T' : State, W κ l R Z EL own nm mx rt vm T' h k n → Go κ G T' (pc + 3) Ls (.ref a :: st)) : Go κ G T pc Ls (.ref a :: st) := by
  obtain ⟨q1, L, k0, X, e, hS, hk, hZ, ho, N, CC⟩ := w
  obtain ⟨T', X', e', stp⟩ := RoadKit.castY X q1.1 hZ ho w1 e F (g := mkF κ.m pc Ls (.ref a :: st)) rfl rfl hd
  exact Fx.via stp (g T' ⟨q1, L, k0, X', e', hS, hk, hZ, ho, N, CC⟩)
theorem W.acmp (w : W κ l R Z EL own nm mx rt vm T h k n) {o : Int} {pc' : Nat} {a b : Addr} (hd : decode κ.c.code pc = .ok (.if_acmp .ne o, 3)) (ho : 0 ≤ (pc : Int) + o) (hp : ((pc : Int) + o).toNat = pc') (hT : ¬ a = b → Go κ G T pc' Ls st) (hF : a = b → Go κ G T (pc + 3) Ls st) : Go κ G T pc Ls (.ref b :: .ref a :: st) := by
  obtain ⟨q1, L, k0, X, e, hS, hk, hZ, ho', N, CC⟩ := w
  by_cases q : a = b
  · exact Fx.via (fun t z => RoadKit.acmp X q1.1 rfl (cd := .ne) (x := .ref a) (y := .ref b) rfl rfl (same := true) rfl hd rfl (by simp [q]) ho (pc' := pc + 3) (by simp [acV]) z) (hF q)
  · exact Fx.via (fun t z => RoadKit.acmp X q1.1 rfl (cd := .ne) (x := .ref a) (y := .ref b) rfl rfl (same := false) rfl hd rfl (by simp [q]) ho (pc' := pc') (by simp [acV, hp]) z) (hT q)
theorem W.acmpE (w : W κ l R Z EL own nm mx rt vm T h k n) {o : Int} {pc' : Nat} {a b : Addr} (hd : decode κ.c.code pc = .ok (.if_acmp .eq o, 3)) (ho : 0 ≤ (pc : Int) + o) (hp : ((pc : Int) + o).toNat = pc') (hT : a = b → Go κ G T pc' Ls st) (hF : ¬ a = b → Go κ G T (pc + 3) Ls st) : Go κ G T pc Ls (.ref b :: .ref a :: st) := by
  obtain ⟨q1, L, k0, X, e, hS, hk, hZ, ho', N, CC⟩ := w
  by_cases q : a = b
  · exact Fx.via (fun t z => RoadKit.acmp X q1.1 rfl (cd := .eq) (x := .ref a) (y := .ref b) rfl rfl (same := true) rfl hd rfl (by simp [q]) ho (pc' := pc') (by simp [acV, hp]) z) (hT q)
  · exact Fx.via (fun t z => RoadKit.acmp X q1.1 rfl (cd := .eq) (x := .ref a) (y := .ref b) rfl rfl (same := false) rfl hd rfl (by simp [q]) ho (pc' := pc + 3) (by simp [acV]) z) (hF q)
/-- invokevirtual of a private method -/
theorem W.callP (w : W κ l R Z EL own nm mx rt vm T h k n) {y : MethodName} {bytes : ByteArray} {maxL : Nat} {ret : Option FieldType} {index : Nat} (w1 : (Cond.methodLink own index y).before a0 Z = true) (w2 : (Cond.instanceMethod y).before a0 Z = true) (hnf : ∀ s : State, Z.Warmed39 s.vm → NotFace s y) (w5 : (Cond.privateMethod y).before a0 Z = true) (w4 : (Cond.code y bytes maxL ret).before a0 Z = true) (hy : y.cls ≠ "java/lang/invoke/MethodHandle" ∧ y.cls ≠ "java/lang/invoke/VarHandle")
    {a : Addr} {C : String} (E : Exa Z h a C) {argsL : List Value} {rc rs Wd : Nat} {Q : Option Value → Heap → (Addr → Prop) → Prop} (hK : BB κ l R Z EL vm h y 3 Wd (.ref a :: argsL).toArray rc rs Q) {ps : List FieldType} {r0 : Option FieldType} (hde : parseMethodDescriptor y.desc = some ⟨ps, r0⟩) (hlen : argsL.length = ps.length) {st0 : List Value} (hst : st0 = argsL.reverse ++ .ref a :: st) (hsz : Ls.size = mx) (hW : (st.map fun v => v.category).sum ≤ Wd) (hd : decode κ.c.code pc = .ok (.invokevirtual index, 3)) (hc : k + rc ≤ R.cells) (hl : n + rs ≤ R.slots)
    (g : ∀ (vm' : Vm) (T' : State) (h' : Heap) (v : Option Value), W κ l R Z EL own nm mx rt vm' T' h' (k + rc) (n + rs) → CHr Z EL vm h vm' h' → Q v h' (Safe Z EL vm' h') → Go κ G T' (pc + 3) Ls (v.toList ++ st)) : Go κ G T pc Ls st0 := by
  have w0 := w
  subst hst
  obtain ⟨q1, L, k0, X, e, hS, hk, hZ, ho, N, CC⟩ := w
  obtain ⟨cell, hcell, hob⟩ := E.cell
  have hinst : (Cond.instanceMethod y).before κ.a (κ.s.setVm vm) = true := mvT (s := κ.s.setVm vm) hZ w2
  have hcode : (Cond.code y bytes maxL ret).before κ.a (κ.s.setVm vm) = true := mvT (s := κ.s.setVm vm) hZ w4
  obtain ⟨mk, methM, hnamed, hmethM, hstM, habM⟩ := Cond.instanceMethod_spec hinst
  obtain ⟨methM', cM, hmethM', -, -, -, -, -, -, hsigM⟩ := Cond.code_spec hnamed hcode
  cases hmethM.symm.trans hmethM'
  obtain ⟨kP, hkP, hkPi⟩ := hnf (κ.s.setVm vm) hZ mk hnamed
  have hselP : selectMethod κ.e.platform (κ.s.setVm vm).vm cell.cls mk = .method mk := selectMethod_private hmethM (Cond.privateMethod_at (args := #[]) (mvP (s := κ.s.setVm vm) hZ w5) mk methM hnamed hmethM)
  obtain ⟨vm₁, X₁, hstep₁⟩ := X.invokevirtual q1.1 ho (mvT (s := κ.s.setVm vm) hZ w1) hnamed hmethM hstM hkP hkPi hy (a := a) (cell := cell) (by rw [e]; exact hcell) hob hselP hmethM habM hkP hkPi (g := mkF κ.m pc Ls (argsL.reverse ++ .ref a :: st)) rfl (argsL := argsL) (rest := st) (lenOf hde hlen _ hsigM) rfl hd
  obtain ⟨v, ⟨T', L', k', n'⟩, X', hS', hgr, ⟨L2, ⟨hQ, NL⟩, p1, p2, p3, p4⟩, hsteps⟩ := hK κ.m κ.M κ.c ⟨T.setVm vm₁, L, k, n⟩ (mkF κ.m pc Ls st) (.invokevirtual index) mk (.ref a :: argsL).toArray X₁ rfl (by show Ls.size = _; rw [q1.2.1]; exact hsz) hd (by show 2 * 0 + (st.map fun v => v.category).sum ≤ _; omega) (X₁.named hnamed) ⟨rfl, e, hc, hl⟩
  dsimp only [Pt.U, Pt.locs, Pt.cells, Pt.slots] at X' hS' hgr hQ p1 p2 p3 p4 hsteps
  subst p1 p2 p3
  have stp := (hstep₁ _ fun acts => by rw [doInvoke_state]; exact Steps.refl _).trans hsteps
  exact Fx.after stp (g T'.vm T' T'.heap v (w0.back ⟨k0, hS, hk⟩ N X' hS' (by rw [← e]; exact hgr) NL p4) p4 hQ)
theorem notFaceAs {y y' : MethodName} {C : String} (hc : y.cls = y'.cls) (w3 : (Cond.selects C y' y').before a0 Z = true) (w4 : (Cond.instanceMethod y').before a0 Z = true) : ∀ s : State, Z.Warmed39 s.vm → NotFace s y := fun s hZ r0 h0 => by
  have hi : (Cond.instanceMethod y').before #[] s = true := mvT hZ w4
  obtain ⟨mk, methM, hnamed, -⟩ := Cond.instanceMethod_spec hi
  obtain ⟨kr, h1, h2⟩ := notFace (a0 := a0) w3 s hZ mk hnamed
  have e1 := findClass_of_methodNamed h0
  have e2 := findClass_of_methodNamed hnamed
  rw [hc] at e1
  have e3 := Option.some.inj (e1.symm.trans e2)
  exact ⟨kr, by rw [e3]; exact h1, h2⟩
/-- invokevirtual of a method that a superclass declares -/
theorem W.callUp (w : W κ l R Z EL own nm mx rt vm T h k n) {y z : MethodName} {C owner : String} {index : Nat} (w1 : (Cond.methodLink own index y).before a0 Z = true) (w2 : (Cond.sameMethod y.cls owner y.name y.desc).before a0 Z = true) (w3 : (Cond.declares ⟨owner, y.name, y.desc⟩).before a0 Z = true) (hy : owner ≠ "java/lang/invoke/MethodHandle" ∧ owner ≠ "java/lang/invoke/VarHandle") (w4 : (Cond.selects C y z).before a0 Z = true) (w5 : (Cond.instanceMethod z).before a0 Z = true)
    {a : Addr} (E : Exa Z h a C) {argsL : List Value} {rc rs Wd : Nat} {Q : Option Value → Heap → (Addr → Prop) → Prop} (hK : BB κ l R Z EL vm h z 3 Wd (.ref a :: argsL).toArray rc rs Q) {ps : List FieldType} {r0 : Option FieldType} (hde : parseMethodDescriptor y.desc = some ⟨ps, r0⟩) (hlen : argsL.length = ps.length) {st0 : List Value} (hst : st0 = argsL.reverse ++ .ref a :: st) (hsz : Ls.size = mx) (hW : (st.map fun v => v.category).sum ≤ Wd) (hd : decode κ.c.code pc = .ok (.invokevirtual index, 3)) (hc : k + rc ≤ R.cells) (hl : n + rs ≤ R.slots)
    (g : ∀ (vm' : Vm) (T' : State) (h' : Heap) (v : Option Value), W κ l R Z EL own nm mx rt vm' T' h' (k + rc) (n + rs) → CHr Z EL vm h vm' h' → Q v h' (Safe Z EL vm' h') → Go κ G T' (pc + 3) Ls (v.toList ++ st)) : Go κ G T pc Ls st0 := by
  have w0 := w
  subst hst
  obtain ⟨q1, L, k0, X, e, hS, hk, hZ, ho, N, CC⟩ := w
  obtain ⟨cB, kB, i1, i2, i3⟩ := isOf (s := κ.s.setVm vm) hZ e E
  obtain ⟨v, vm₁, ⟨T', L', k', n'⟩, -, X', hS', hgr, ⟨L2, ⟨hQ, NL⟩, p1, p2, p3, p4⟩, stp⟩ := X.virtualBackUpS q1.1 ho (mvT (s := κ.s.setVm vm) hZ w1) (mvT (s := κ.s.setVm vm) hZ w2) (mvT (s := κ.s.setVm vm) hZ w3) hy (mvT (s := κ.s.setVm vm) hZ w4) (mvT (s := κ.s.setVm vm) hZ w5) hK i1 i3 (g := mkF κ.m pc Ls (argsL.reverse ++ .ref a :: st)) rfl (by rw [q1.2.1]; exact hsz) (Steps.refl _) (argsL := argsL) (rest := st) (lenOf hde hlen) rfl (by show 2 * 0 + _ ≤ _; omega) hd (fun _ _ => ⟨rfl, e, hc, hl⟩)
  dsimp only [Pt.U, Pt.locs, Pt.cells, Pt.slots] at X' hS' hgr hQ p1 p2 p3 p4 stp
  subst p1 p2 p3
  exact Fx.after stp (g T'.vm T' T'.heap v (w0.back ⟨k0, hS, hk⟩ N X' hS' (by rw [← e]; exact hgr) NL p4) p4 hQ)
theorem W.instNo (w : W κ l R Z EL own nm mx rt vm T h k n) {K C : String} {index : Nat} (w1 : (Cond.classLink own index K).before a0 Z = true) {a : Addr} (E : Exa Z h a C) (F : ∃ c t, Z.vm.findClass C = some c ∧ Z.vm.findClass K = some t ∧ Z.vm.assignable c t = false) (hd : decode κ.c.code pc = .ok (.instanceof index, 3))
    (g : ∀ T' : State, W κ l R Z EL own nm mx rt vm T' h k n → Go κ G T' (pc + 3) Ls (.int 0 :: st)) : Go κ G T pc Ls (.ref a :: st) := by
  obtain ⟨q1, L, k0, X, e, hS, hk, hZ, ho, N, CC⟩ := w
  obtain ⟨T', X', e', stp⟩ := RoadKit.instNo X q1.1 hZ ho w1 e E F (g := mkF κ.m pc Ls (.ref a :: st)) rfl rfl hd
  exact Fx.via stp (g T' ⟨q1, L, k0, X', e', hS, hk, hZ, ho, N, CC⟩)
theorem W.instNull (w : W κ l R Z EL own nm mx rt vm T h k n) {index : Nat} (hd : decode κ.c.code pc = .ok (.instanceof index, 3)) (g : Go κ G T (pc + 3) Ls (.int 0 :: st)) : Go κ G T pc Ls (.null :: st) := by
  obtain ⟨q1, L, k0, X, -⟩ := w
  exact Fx.via (Stand.instanceofNull X q1.1 (g := mkF κ.m pc Ls (.null :: st)) rfl rfl hd) g
theorem W.lsw (w : W κ l R Z EL own nm mx rt vm T h k n) {x : Int32} {dflt : Int} {pairs : Array (Int × Int)} {len : Nat} {pc' : Nat} (hd : decode κ.c.code pc = .ok (.lookupswitch dflt pairs, len)) (hso : (pairs.toList.zip (pairs.toList.drop 1)).all (fun (a, next) => a.1 < next.1) = true) {p : Int × Int} (hf : pairs.find? (·.1 == x.toInt) = some p) (ho : 0 ≤ (pc : Int) + p.2) (hp : ((pc : Int) + p.2).toNat = pc') (g : Go κ G T pc' Ls st) : Go κ G T pc Ls (.int x :: st) := by
  obtain ⟨q1, L, k0, X, -⟩ := w
  subst hp
  obtain ⟨p1, p2⟩ := p
  exact Fx.via (fun t z => Stand.lookupswitchHit X q1.1 (g := mkF κ.m pc Ls (.int x :: st)) rfl rfl hd hso hf ho t z) g
/-- the end -/
theorem W.ends (w : W κ l R Z EL own nm mx rt vm T h k n) {Q : Option Value → Heap → (Addr → Prop) → Prop} {v : Option Value} (hv : κ.M.sig.returnType = none → v = none) (hc : k ≤ R.cells) (hl : n ≤ R.slots) (hQ : ∀ S : Addr → Prop, (∀ x, x < h.size → Safe Z EL vm h x → S x) → Q v h S) {A : State}
    (hs : ∀ fs, (∀ (f : JFrame) (acts : List Action), f.method = κ.m → f.locked = none → f.entered = [] → (doReturn κ.e (T.setTop f) acts v).1 = T.setFrames fs) → Steps κ.p.tables κ.e κ.b A (T.setFrames fs)) : Fx κ (GQ κ Z EL R Q) A := by
  have w0 := w
  obtain ⟨q1, L, k0, X, e, hS, hk, hZ, ho, N, CC⟩ := w
  obtain ⟨a0, hEL⟩ := q1.2.2.2.2.2
  obtain ⟨fs, h1, h2, h3, h4⟩ := Stand.leaveW (s := κ.s) X hS (by rw [e]; exact hk) hv q1.2.2.2.1
  refine ⟨v, T.setFrames fs, hs fs h1, h2, h3, L, ⟨?_, N⟩, ?_, h4.1, h4.2.1, h4.2.2.1, h4.2.2.2.mono hc hl⟩
  · show Q v T.heap (Safe Z EL T.vm T.heap)
    rw [e]; exact hQ _ fun x hx S => (CHv.at X hZ hEL CC.1).safe hx S
  · have := CC.trans (CHv.at X hZ hEL CC.1)
    show CHr Z EL κ.s.vm κ.s.heap T.vm T.heap
    rw [e]; exact this
theorem W.retV (w : W κ l R Z EL own nm mx none vm T h k n) {Q : Option Value → Heap → (Addr → Prop) → Prop} (hd : decode κ.c.code pc = .ok (.return_, 1)) (hc : k ≤ R.cells) (hl : n ≤ R.slots) (hQ : ∀ S : Addr → Prop, (∀ x, x < h.size → Safe Z EL vm h x → S x) → Q none h S) : Go κ (GQ κ Z EL R Q) T pc Ls [] := by
  have w0 := w
  obtain ⟨q1, L, k0, X, -⟩ := w
  exact w0.ends (fun _ => rfl) hc hl hQ fun fs hr => X.returnOut q1.1 q1.2.2.1 hd hr
theorem W.retI (w : W κ l R Z EL own nm mx rt vm T h k n) {t : FieldType} (ht : rt = some t) (htk : t = .int ∨ t = .boolean ∨ t = .byte ∨ t = .char ∨ t = .short) {Q : Option Value → Heap → (Addr → Prop) → Prop} {z : Int32} (hn : narrow t (.int z) = .int z) (hd : decode κ.c.code pc = .ok (.ireturn, 1)) (hc : k ≤ R.cells) (hl : n ≤ R.slots) (hQ : ∀ S : Addr → Prop, (∀ x, x < h.size → Safe Z EL vm h x → S x) → Q (some (.int z)) h S) : Go κ (GQ κ Z EL R Q) T pc Ls (.int z :: st) := by
  have w0 := w
  obtain ⟨q1, L, k0, X, -⟩ := w
  subst ht
  exact w0.ends (fun q => by rw [q1.2.2.1] at q; cases q) hc hl hQ fun fs hr => retOut X q1.1 q1.2.2.1 hn (Or.inl ⟨rfl, htk, z, rfl⟩) hd hr
theorem W.retA (w : W κ l R Z EL own nm mx rt vm T h k n) {t : FieldType} (ht : rt = some t) (htk : t.isReference = true) {Q : Option Value → Heap → (Addr → Prop) → Prop} {v : Value} (hvr : v.isRef = true) (hn : narrow t v = v) (hd : decode κ.c.code pc = .ok (.areturn, 1)) (hc : k ≤ R.cells) (hl : n ≤ R.slots) (hQ : ∀ S : Addr → Prop, (∀ x, x < h.size → Safe Z EL vm h x → S x) → Q (some v) h S) : Go κ (GQ κ Z EL R Q) T pc Ls (v :: st) := by
  have w0 := w
  obtain ⟨q1, L, k0, X, -⟩ := w
  subst ht
  exact w0.ends (fun q => by rw [q1.2.2.1] at q; cases q) hc hl hQ fun fs hr => retOut X q1.1 q1.2.2.1 hn (Or.inr (Or.inr (Or.inr (Or.inr ⟨rfl, htk, hvr⟩)))) hd hr
end Laws
end Jvm.WK
namespace Jvm.WK
open Sem ClassFile Op Lib Jvm.Stand Jvm.Free Jvm.LawKit Jvm.RoadKit Bundle
/-! WK3: Strings, plainly -/
abbrev ST : String := "java/lang/String"
def lo8 (x : Int32) : Int32 := x.toInt8.toInt32
def hi8 (x : Int32) : Int32 := (x >>> ((8 : Int32) &&& 31)).toInt8.toInt32
def lo0 (x : Int32) : Int32 := (x >>> ((0 : Int32) &&& 31)).toInt8.toInt32
def IsC (cs : List Int32) : Prop := ∀ c ∈ cs, ¬ c < 0 ∧ ¬ 65535 < c
def IsL (cs : List Int32) : Prop := ∀ c ∈ cs, ¬ c < 0 ∧ ¬ 255 < c
theorem IsL.isC {cs : List Int32} (h : IsL cs) : IsC cs := fun c hc => ⟨(h c hc).1, fun q => (h c hc).2 (by
  rw [Int32.lt_iff_toInt_lt] at q ⊢
  have e1 : (65535 : Int32).toInt = 65535 := by decide
  have e2 : (255 : Int32).toInt = 255 := by decide
  omega)⟩
def u16 : List Int32 → List Int32
  | [] => []
  | c :: cs => lo0 c :: hi8 c :: u16 cs
theorem u16_len : ∀ cs : List Int32, (u16 cs).length = 2 * cs.length
  | [] => rfl
  | c :: cs => by simp only [u16, List.length_cons, u16_len cs]; omega
theorem u16_app : ∀ a b : List Int32, u16 (a ++ b) = u16 a ++ u16 b
  | [], b => rfl
  | c :: cs, b => by simp only [List.cons_append, u16, u16_app cs b]
theorem u16_at : ∀ (cs : List Int32) (i : Nat) (c : Int32), cs[i]? = some c → (u16 cs)[2 * i]? = some (lo0 c) ∧ (u16 cs)[2 * i + 1]? = some (hi8 c)
  | [], i, c, h => by simp at h
  | d :: cs, 0, c, h => by
    have e : d = c := by simpa using h
    subst e
    exact ⟨rfl, rfl⟩
  | d :: cs, i + 1, c, h => by
    have h' : cs[i]? = some c := by simpa using h
    obtain ⟨h1, h2⟩ := u16_at cs i c h'
    have e1 : 2 * (i + 1) = 2 * i + 1 + 1 := by omega
    have e2 : 2 * (i + 1) + 1 = 2 * i + 1 + 1 + 1 := by omega
    rw [e1]
    exact ⟨by simpa [u16] using h1, by simpa [u16] using h2⟩
theorem ofNat_toInt {i : Nat} (h : i < 2147483648) : (Int32.ofNat i).toInt = (i : Int) := Int32.toInt_ofNat_small (by omega)
theorem ofNat_add {i j : Nat} : Int32.ofNat i + Int32.ofNat j = Int32.ofNat (i + j) := (Int32.ofNat_add i j).symm
theorem ofNat_succ {i : Nat} : Int32.ofNat i + (1 : Int32) = Int32.ofNat (i + 1) := (Int32.ofNat_add i 1).symm
theorem ofNat_lt {i j : Nat} (hi : i < 2147483648) (hj : j < 2147483648) : Int32.ofNat i < Int32.ofNat j ↔ i < j := by
  rw [Int32.lt_iff_toInt_lt, ofNat_toInt hi, ofNat_toInt hj]; omega
theorem ofNat_inj {i j : Nat} (hi : i < 2147483648) (hj : j < 2147483648) : Int32.ofNat i = Int32.ofNat j ↔ i = j := by
  rw [← Int32.toInt_inj, ofNat_toInt hi, ofNat_toInt hj]; omega
theorem ofNat_dbl {i : Nat} (h : i < 1073741824) : Int32.ofNat i <<< ((1 : Int32) &&& 31) = Int32.ofNat (2 * i) := by
  rw [← Int32.toInt_inj, ofNat_toInt (by omega)]
  have h1 := c_ishl (Int32.ofNat i) 1 1 (by decide)
  rw [ofNat_toInt (by omega)] at h1
  have h2 := rng32 (Int32.ofNat i <<< ((1 : Int32) &&& 31))
  push_cast at h1 ⊢
  omega
theorem ofNat_half {i : Nat} (h : 2 * i < 2147483648) : Int32.ofNat (2 * i) >>> ((1 : Int32) &&& 31) = Int32.ofNat i := by
  rw [← Int32.toInt_inj, ofNat_toInt (by omega), c_ishr _ 1 1 (by decide), ofNat_toInt (by omega)]
  push_cast
  omega
theorem shr0 (x : Int32) : x >>> ((0 : Int32) &&& 31) = x := by
  rw [← Int32.toInt_inj, c_ishr _ 0 0 (by decide)]
  simp
theorem fits_lo8 (x : Int32) : fits .byte (.int (lo8 x)) = true := Jvm.Free.SBG.fits_of_int8 _
theorem fits_i2b (x : Int32) : fits .byte (.int x.toInt8.toInt32) = true := Jvm.Free.SBG.fits_of_int8 _
theorem nar_i2b (x : Int32) : nar .byte x.toInt8.toInt32 = x.toInt8.toInt32 := by simp [nar]
theorem fits_i2c (x : Int32) : fits .char (.int x.toUInt32.toUInt16.toUInt32.toInt32) = true := by
  have h := c_i2c x
  have e1 : (0 : Int32).toInt = 0 := by decide
  have e2 : (65535 : Int32).toInt = 65535 := by decide
  simp only [fits, Bool.and_eq_true, decide_eq_true_eq, Int32.le_iff_toInt_le, e1, e2]
  omega
theorem nar_i2c (x : Int32) : nar .char x.toUInt32.toUInt16.toUInt32.toInt32 = x.toUInt32.toUInt16.toUInt32.toInt32 := by
  simp only [nar, UInt32.toUInt32_toInt32, UInt16.toUInt16_toUInt32]
theorem char_of {x : Int32} (h0 : ¬ x < 0) (h1 : ¬ 65535 < x) : x.toUInt32.toUInt16.toUInt32.toInt32 = x := by
  rw [← Int32.toInt_inj]
  have h := c_i2c x
  rw [Int32.lt_iff_toInt_lt] at h0 h1
  have e1 : (0 : Int32).toInt = 0 := by decide
  have e2 : (65535 : Int32).toInt = 65535 := by decide
  omega
theorem narrow_char {x : Int32} (h0 : ¬ x < 0) (h1 : ¬ 65535 < x) : narrow .char (.int x) = .int x := by
  have := char_of h0 h1
  show Value.int x.toUInt32.toUInt16.toUInt32.toInt32 = _
  rw [this]
theorem lo8_and {x : Int32} (h0 : ¬ x < 0) (h1 : ¬ 255 < x) : lo8 x &&& (255 : Int32) = x := by
  rw [← Int32.toInt_inj, c_mask _ 255 8 (by decide) (by decide)]
  have h := c_i2b x
  rw [Int32.lt_iff_toInt_lt] at h0 h1
  have e1 : (0 : Int32).toInt = 0 := by decide
  have e2 : (255 : Int32).toInt = 255 := by decide
  unfold lo8
  omega
theorem lo8_inj {x y : Int32} (h0 : ¬ x < 0) (h1 : ¬ 255 < x) (g0 : ¬ y < 0) (g1 : ¬ 255 < y) (e : lo8 x = lo8 y) : x = y := by
  rw [← lo8_and h0 h1, ← lo8_and g0 g1, e]
theorem getc {c : Int32} (h0 : ¬ c < 0) (h1 : ¬ 65535 < c) : (((lo0 c &&& (255 : Int32)) <<< ((0 : Int32) &&& 31)) ||| ((hi8 c &&& (255 : Int32)) <<< ((8 : Int32) &&& 31))).toUInt32.toUInt16.toUInt32.toInt32 = c := by
  rw [← Int32.toInt_inj]
  rw [Int32.lt_iff_toInt_lt] at h0 h1
  have e1 : (0 : Int32).toInt = 0 := by decide
  have e2 : (65535 : Int32).toInt = 65535 := by decide
  have a0 := c_ishr c 0 0 (by decide)
  have a1 := c_i2b (c >>> ((0 : Int32) &&& 31))
  have a2 := c_mask (lo0 c) 255 8 (by decide) (by decide)
  have a3 := c_ishl (lo0 c &&& 255) 0 0 (by decide)
  have a4 := rng32 ((lo0 c &&& (255 : Int32)) <<< ((0 : Int32) &&& 31))
  have b0 := c_ishr c 8 8 (by decide)
  have b1 := c_i2b (c >>> ((8 : Int32) &&& 31))
  have b2 := c_mask (hi8 c) 255 8 (by decide) (by decide)
  have b3 := c_ishl (hi8 c &&& 255) 8 8 (by decide)
  have b4 := rng32 ((hi8 c &&& (255 : Int32)) <<< ((8 : Int32) &&& 31))
  have cc := c_or' ((lo0 c &&& (255 : Int32)) <<< ((0 : Int32) &&& 31)) ((hi8 c &&& (255 : Int32)) <<< ((8 : Int32) &&& 31)) 8 (by decide) 256 (by decide)
  have dd := c_i2c (((lo0 c &&& (255 : Int32)) <<< ((0 : Int32) &&& 31)) ||| ((hi8 c &&& (255 : Int32)) <<< ((8 : Int32) &&& 31)))
  have ee := rng32 (((lo0 c &&& (255 : Int32)) <<< ((0 : Int32) &&& 31)) ||| ((hi8 c &&& (255 : Int32)) <<< ((8 : Int32) &&& 31)))
  unfold lo0 hi8 at *
  generalize (c >>> ((0 : Int32) &&& 31)).toInt8.toInt32 = x0 at *
  generalize (c >>> ((8 : Int32) &&& 31)).toInt8.toInt32 = x1 at *
  generalize (x0 &&& (255 : Int32)) <<< ((0 : Int32) &&& 31) = y0 at *
  generalize (x1 &&& (255 : Int32)) <<< ((8 : Int32) &&& 31) = y1 at *
  generalize (y0 ||| y1).toUInt32.toUInt16.toUInt32.toInt32 = z at *
  have c2 : y1.toInt % 256 = 0 := by omega
  have c3 : 0 ≤ y0.toInt := by omega
  have c4 : y0.toInt < 256 := by omega
  have cc := cc c2 c3 c4
  omega
theorem set_map {pre : List Int32} {k : Nat} {a : Int32} (f : Int32 → Int32) : (pre.map f ++ List.replicate (k + 1) (0 : Int32)).set pre.length a = pre.map f ++ a :: List.replicate k 0 := by
  rw [List.set_append_right _ _ (by simp)]
  simp [List.replicate_succ]
theorem set_u16 {pre : List Int32} {k : Nat} {a b : Int32} : ((u16 pre ++ List.replicate (2 * (k + 1)) (0 : Int32)).set (2 * pre.length) a).set (2 * pre.length + 1) b = u16 pre ++ a :: b :: List.replicate (2 * k) 0 := by
  have e : 2 * (k + 1) = 2 * k + 1 + 1 := by omega
  rw [e, List.replicate_succ, List.replicate_succ, List.set_append_right _ _ (by rw [u16_len]; omega)]
  rw [u16_len, Nat.sub_self, List.set_cons_zero, List.set_append_right _ _ (by rw [u16_len]; omega), u16_len]
  have e2 : 2 * pre.length + 1 - 2 * pre.length = 0 + 1 := by omega
  rw [e2, List.set_cons_succ, List.set_cons_zero]
theorem take_succ {cs : List Int32} {i : Nat} {c : Int32} (h : cs[i]? = some c) : cs.take (i + 1) = cs.take i ++ [c] := by
  rw [List.take_add_one, h]; rfl
/-- a String that spells cs -/
def Str (Z : State) (h : Heap) (a : Addr) (cs : List Int32) : Prop :=
  ∃ b, Exa Z h a ST ∧ Fld Z h a ST "value" "[B" (.ref b) ∧ IsC cs ∧ cs.length < 1073741824 ∧
    ((IsL cs ∧ Fld Z h a ST "coder" "B" (.int 0) ∧ Ary Z h b .byte (cs.map lo8)) ∨ (¬ IsL cs ∧ Fld Z h a ST "coder" "B" (.int 1) ∧ Ary Z h b .byte (u16 cs)))
section StrFacts
variable {Z : State} {h h' : Heap} {a : Addr} {cs : List Int32} {ws : List Addr}
theorem Str.ext (E : Ext h h') (F : Str Z h a cs) : Str Z h' a cs := by
  obtain ⟨b, f1, f2, f3, f4, f5⟩ := F
  exact ⟨b, f1.ext E, f2.ext E, f3, f4, f5.imp (fun q => ⟨q.1, q.2.1.ext E, q.2.2.ext E⟩) (fun q => ⟨q.1, q.2.1.ext E, q.2.2.ext E⟩)⟩
theorem Str.exa (F : Str Z h a cs) : Exa Z h a ST := by obtain ⟨b, f1, -⟩ := F; exact f1
theorem Str.lt (F : Str Z h a cs) : a < h.size := F.exa.lt
theorem Str.isC (F : Str Z h a cs) : IsC cs := by obtain ⟨b, f1, f2, f3, -⟩ := F; exact f3
theorem Keep.toExt (K : Keep h h' []) : Ext h h' := ⟨K.1, fun x c q => K.2.1 x c q nin0⟩
/-- kept where all that was written is new (at or above h.size) -/
theorem Str.keepNew {h0 : Heap} (K : Keep h0 h' ws) (F : Str Z h0 a cs) (hw : ∀ x ∈ ws, h0.size ≤ x) : Str Z h' a cs :=
  F.ext ⟨K.1, fun x c q => K.2.1 x c q fun hm => absurd (Array.getElem?_eq_some_iff.mp q).1 (Nat.not_lt.mpr (hw x hm))⟩
end StrFacts
end Jvm.WK
namespace Jvm.WK
open Sem ClassFile Op Lib Jvm.Stand Jvm.Free Jvm.LawKit Jvm.RoadKit Bundle
section StrMore
variable {Z : State} {h h' : Heap} {a b x y : Addr} {cs ds : List Int32} {ws : List Addr} {a0 : Array Value}
theorem Ary.ne_exa {C : String} {kk : Nat} {ty : FieldType} {vs : List Int32} (F : Ary Z h y ty vs) (E : Exa Z h x C) (wi : (Cond.instantiable C kk).before a0 Z = true) : y ≠ x := by
  obtain ⟨c, A, -⟩ := F; exact fun e => ne_arr E wi A e.symm
theorem Ary.inj {ty : FieldType} {us vs : List Int32} (F : Ary Z h a ty us) (G : Ary Z h a ty vs) : us = vs := by
  obtain ⟨c, A, r1, -⟩ := F
  obtain ⟨c', A', r1', -⟩ := G
  cases A.1.symm.trans A'.1
  have := r1.symm.trans r1'
  exact (List.map_inj_right (fun x y q => by cases q; rfl)).mp this
theorem Ary.isC (F : Ary Z h a .char cs) : IsC cs := fun c hc => by
  have := F.fit c hc
  exact rng_char this
theorem Fld.inj {C n d : String} {v w : Value} (F : Fld Z h a C n d v) (G : Fld Z h a C n d w) : v = w := Classical.byContradiction fun q => F.ne G q rfl
theorem lo8_list : ∀ {cs ds : List Int32}, IsL cs → IsL ds → cs.map lo8 = ds.map lo8 → cs = ds
  | [], [], _, _, _ => rfl
  | [], d :: ds, _, _, h => by simp at h
  | c :: cs, [], _, _, h => by simp at h
  | c :: cs, d :: ds, h1, h2, h => by
    simp only [List.map_cons, List.cons.injEq] at h
    have e1 := lo8_inj (h1 c (List.mem_cons_self ..)).1 (h1 c (List.mem_cons_self ..)).2 (h2 d (List.mem_cons_self ..)).1 (h2 d (List.mem_cons_self ..)).2 h.1
    have e2 := lo8_list (fun x hx => h1 x (List.mem_cons_of_mem _ hx)) (fun x hx => h2 x (List.mem_cons_of_mem _ hx)) h.2
    rw [e1, e2]
theorem Str.lat (F : Str Z h a cs) (hL : IsL cs) : ∃ b, Fld Z h a ST "value" "[B" (.ref b) ∧ Fld Z h a ST "coder" "B" (.int 0) ∧ Ary Z h b .byte (cs.map lo8) := by
  obtain ⟨b, f1, f2, f3, f4, f5 | f5⟩ := F
  · exact ⟨b, f2, f5.2⟩
  · exact absurd hL f5.1
theorem Str.inj (F : Str Z h a cs) (G : Str Z h a ds) (hc : IsL cs) (hd : IsL ds) : cs = ds := by
  obtain ⟨b, f1, f2, f3⟩ := F.lat hc
  obtain ⟨b', g1, g2, g3⟩ := G.lat hd
  have := Fld.inj f1 g1
  cases this
  exact lo8_list hc hd (f3.inj g3)
theorem Str.len_lt (F : Str Z h a cs) : cs.length < 1073741824 := by obtain ⟨b, f1, f2, f3, f4, -⟩ := F; exact f4
theorem cod0 {n : Nat} : (((Int32.ofNat n - Int32.ofNat n).toUInt32 >>> ((31 : Int32) &&& 31).toUInt32).toInt32).toInt8.toInt32 = 0 := by
  rw [Int32.sub_self]; decide
theorem cod1 {n : Nat} (h0 : 0 < n) (h : 2 * n < 2147483648) : (((Int32.ofNat n - Int32.ofNat (2 * n)).toUInt32 >>> ((31 : Int32) &&& 31).toUInt32).toInt32).toInt8.toInt32 = 1 := by
  have e : ((Int32.ofNat n - Int32.ofNat (2 * n)).toUInt32 >>> ((31 : Int32) &&& 31).toUInt32).toInt32 = 1 := by
    rw [← Int32.toInt_inj, c_iushr _ 31 31 (by decide) (by decide)]
    have h1 := c_isub (Int32.ofNat n) (Int32.ofNat (2 * n))
    rw [ofNat_toInt (by omega), ofNat_toInt (by omega)] at h1
    have h2 := rng32 (Int32.ofNat n - Int32.ofNat (2 * n))
    have h3 : (1 : Int32).toInt = 1 := by decide
    rw [h3]
    omega
  rw [e]; decide
theorem isL_of {cs : List Int32} (hc : IsC cs) (h : ∀ i c, i < cs.length → cs[i]? = some c → ¬ 255 < c) : IsL cs := fun c hm => by
  obtain ⟨i, hi, rfl⟩ := List.getElem_of_mem hm
  exact ⟨(hc _ hm).1, h i _ hi (List.getElem?_eq_getElem hi)⟩
theorem not_isL {cs : List Int32} {i : Nat} {c : Int32} (h : cs[i]? = some c) (q : 255 < c) : ¬ IsL cs := fun hl => (hl c (List.mem_of_getElem? h)).2 q
end StrMore
end Jvm.WK
namespace Jvm.WK
open Sem ClassFile Op Lib Jvm.Stand Jvm.Free Jvm.LawKit Jvm.RoadKit Bundle
theorem fitsCh {x : Int32} (h0 : ¬ x < 0) (h1 : ¬ 65535 < x) : fits .char (.int x) = true := by
  have := fits_i2c x
  rw [char_of h0 h1] at this; exact this
theorem narCh {x : Int32} (h0 : ¬ x < 0) (h1 : ¬ 65535 < x) : nar .char x = x := char_of h0 h1
theorem and255 (x : Int32) : ¬ (x &&& (255 : Int32)).toUInt32.toUInt16.toUInt32.toInt32 < 0 ∧ ¬ 255 < (x &&& (255 : Int32)).toUInt32.toUInt16.toUInt32.toInt32 := by
  have h1 := c_and x 255 (by decide)
  have h2 := c_i2c (x &&& 255)
  have h3 : (255 : Int32).toInt = 255 := by decide
  have h4 : (0 : Int32).toInt = 0 := by decide
  rw [Int32.lt_iff_toInt_lt, Int32.lt_iff_toInt_lt]
  omega
theorem and255' (x : Int32) : ¬ (x &&& (255 : Int32)) < 0 ∧ ¬ 255 < (x &&& (255 : Int32)) := by
  have h1 := c_and x 255 (by decide)
  have h3 : (255 : Int32).toInt = 255 := by decide
  have h4 : (0 : Int32).toInt = 0 := by decide
  rw [Int32.lt_iff_toInt_lt, Int32.lt_iff_toInt_lt]
  omega
theorem i2c_bounds (x : Int32) : ¬ x.toUInt32.toUInt16.toUInt32.toInt32 < 0 ∧ ¬ 65535 < x.toUInt32.toUInt16.toUInt32.toInt32 := by
  have h2 := c_i2c x
  have h3 : (65535 : Int32).toInt = 65535 := by decide
  have h4 : (0 : Int32).toInt = 0 := by decide
  rw [Int32.lt_iff_toInt_lt, Int32.lt_iff_toInt_lt]
  omega
theorem le255 {x : Int32} (h : ¬ 255 < x) : ¬ 65535 < x := by
  have h3 : (65535 : Int32).toInt = 65535 := by decide
  have h4 : (255 : Int32).toInt = 255 := by decide
  rw [Int32.lt_iff_toInt_lt] at h ⊢
  omega
/-- a remainder of a masked int is a small number -/
theorem remNat (x q m : Int32) (n : Nat) (hq : 0 ≤ q.toInt) (hm : m.toInt = n) (h0 : 0 < n) : ∃ k, k < n ∧ (x &&& q) % m = Int32.ofNat k := by
  have h1 := c_and x q hq
  have h2 := (c_irem (x &&& q) m n hm).1 h1.1
  have h3 := Int.emod_nonneg (x &&& q).toInt (show (n : Int) ≠ 0 by omega)
  have h4 := Int.emod_lt_of_pos (x &&& q).toInt (show (0 : Int) < n by omega)
  have h5 := rng32 m
  refine ⟨((x &&& q).toInt % n).toNat, by omega, ?_⟩
  rw [← Int32.toInt_inj, h2, ofNat_toInt (by omega)]
  omega
/-- an int masked by a small constant is a small number -/
theorem andNat (x m : Int32) (n : Nat) (hm : m.toInt = n) : ∃ k, k ≤ n ∧ (x &&& m) = Int32.ofNat k := by
  have h1 := c_and x m (by omega)
  have h5 := rng32 m
  refine ⟨(x &&& m).toInt.toNat, by omega, ?_⟩
  rw [← Int32.toInt_inj, ofNat_toInt (by omega)]
  omega
end Jvm.WK
namespace Jvm.WK
open Sem ClassFile Op Lib Jvm.Stand Jvm.Free Jvm.LawKit Jvm.RoadKit Bundle
/-- a String is kept where just an object of another class was written -/
theorem Str.keepObj {Z : State} {h h' : Heap} {a x : Addr} {cs : List Int32} {C : String} {kk : Nat} {a0 : Array Value} (F : Str Z h a cs) (K : Keep h h' [x]) (E : Exa Z h x C) (hC : C ≠ ST) (wi : (Cond.instantiable C kk).before a0 Z = true) : Str Z h' a cs := by
  obtain ⟨b, f1, f2, f3, f4, f5⟩ := F
  have n1 : a ∉ [x] := ninS (Exa.ne f1 E (Ne.symm hC)) nin0
  have n2 : ∀ {vs : List Int32}, Ary Z h b .byte vs → b ∉ [x] := fun A => ninS (A.ne_exa E wi) nin0
  exact ⟨b, f1.keep K, f2.keep K n1, f3, f4, f5.imp (fun q => ⟨q.1, q.2.1.keep K n1, q.2.2.keep K (n2 q.2.2)⟩) (fun q => ⟨q.1, q.2.1.keep K n1, q.2.2.keep K (n2 q.2.2)⟩)⟩
theorem Ary.ofStatic {Z : State} {a : Addr} {args : Array Value} {t : Term} {AL : List Int32} (ev : t.eval args Z none [] Z = some (.ref a)) (hx : (Cond.arrayOf t .int).value args Z none Z [] = some true) (n : Nat) (hn : AL.length = n) (hlen : (Term.length t).eval args Z none [] Z = some (.int (Int32.ofNat n))) (hl : n < 2147483648) (hr : ∀ (i : Nat) (v : Int32), AL[i]? = some v → (Term.elem t (.int (Int32.ofNat i))).eval args Z none [] Z = some (.int v)) : Ary Z Z.heap a .int AL := by
  obtain ⟨c, A⟩ := Arr.start ev hx
  have hz : c.slots.size = n := by
    simp only [Term.eval, ev, Option.bind_eq_bind, Option.bind_some, A.fin (Vm.Alike.refl _)] at hlen
    split at hlen
    · rename_i hq
      have := Value.int.inj (Option.some.inj hlen)
      exact (ofNat_inj (by omega) hl).mp this
    · simp at hlen
  refine ⟨c, A, List.ext_getElem? fun i => ?_, by omega, fun v hv => rfl⟩
  by_cases hi : i < n
  · have hv := List.getElem?_eq_getElem (l := AL) (i := i) (by omega)
    have q := elem_in (hr i _ hv) ev (Term.int_eval _) A.1
    rw [clamp_ofNat (by omega)] at q
    rw [List.getElem?_map, hv, Array.getElem?_toList]; exact q.2
  · rw [List.getElem?_eq_none (by simp; omega), List.getElem?_eq_none (by simp; omega)]
theorem noIns {Z : State} {a0 : Array Value} {C O K : String} {nn : Nat} (w : (Cond.superclass C O).before a0 Z = true) (wo : (Cond.noSuperclass O).before a0 Z = true) (wi : (Cond.instantiable K nn).before a0 Z = true) (h1 : C ≠ K) (h2 : O ≠ K) : ∃ c t, Z.vm.findClass C = some c ∧ Z.vm.findClass K = some t ∧ Z.vm.assignable c t = false := by
  obtain ⟨t, kt, g1, g2, g3, g4, -⟩ := Cond.instantiable_spec wi
  have n0 : NS Z O K := by
    obtain ⟨c, k, a1, a2, a3, -, -⟩ := Cond.noSuperclass_spec wo
    have ne := ids_ne a1 g1 h2
    refine ⟨c, t, a1, g1, fun fuel => ?_⟩
    cases fuel with
    | zero => rfl
    | succ f => simp [Vm.isSubclassAux, ne, a2, a3]
  obtain ⟨c, t', h0, g0, n3⟩ := NS.step w n0 h1
  cases g1.symm.trans g0
  obtain ⟨p, k, kp, q1, q2, q3, q4, q5, -, q7⟩ := Cond.superclass_spec h0 w
  have ne := ids_ne h0 g0 h1
  have hi : kt.isInterface = false := by
    rw [Bool.or_eq_false_iff] at g4; exact g4.1
  refine ⟨c, _, h0, g0, ?_⟩
  show Z.vm.assignableAux (255 + 1) c _ = false
  simp [Vm.assignableAux, ne, q2, g2, q5, g3, hi, Vm.isSubclass, n3]
end Jvm.WK
namespace Jvm.Pilot.@@N@@
open Jvm Jvm.ClassFile Sem Op Lib Jvm.Free Jvm.Stand Jvm.LawKit Jvm.RoadKit Jvm.WK Bundle Jvm.Pilot.@@N@@.Jvm.D
theorem own_c255 (z : Int32) : ¬ (255 : Int32) < (z &&& (255 : Int32)).toUInt32.toUInt16.toUInt32.toInt32 := by
  have h1 := c_and z 255 (by decide)
  have h2 := c_i2c (z &&& 255)
  have h3 : (255 : Int32).toInt = 255 := by decide
  rw [Int32.lt_iff_toInt_lt]
  omega
theorem own_or0 {a b c d e : Int32} : (((a - e) ||| (b - e)) ||| c) ||| d = 0 ↔ (a = e ∧ b = e ∧ c = 0 ∧ d = 0) := by
  have h : ∀ x y : Int32, x ||| y = 0 ↔ (x = 0 ∧ y = 0) := fun x y => by
    rw [← Int32.toBitVec_inj, Int32.toBitVec_or]
    show _ = 0#32 ↔ _
    rw [BitVec.or_eq_zero_iff, ← Int32.toBitVec_inj, ← Int32.toBitVec_inj]
    rfl
  rw [h, h, h]
  constructor
  · rintro ⟨⟨⟨h1, h2⟩, h3⟩, h4⟩
    exact ⟨(Int32.sub_eq_iff_eq_add.mp h1).trans (Int32.zero_add _), (Int32.sub_eq_iff_eq_add.mp h2).trans (Int32.zero_add _), h3, h4⟩
  · rintro ⟨rfl, rfl, rfl, rfl⟩
    simp
theorem own_str {a0 : Array Value} {Z : State} (hw : ∀ d ∈ tables_1, d.before a0 Z = true) : ∀ c ∈ Bundle.stringAtoms, c.before a0 Z = true := by
  have h : ∀ c ∈ Bundle.stringAtoms, c ∈ tables_1 := by decide +kernel
  exact fun c hc => hw c (h c hc)
theorem pd0 : parseMethodDescriptor "()V" = some ⟨[], none⟩ := by decide +kernel
theorem pd1 : parseMethodDescriptor "(C)Z" = some ⟨[.char], (some .boolean)⟩ := by decide +kernel
theorem pd2 : parseMethodDescriptor "(C)[B" = some ⟨[.char], (some (.array .byte))⟩ := by decide +kernel
theorem pd3 : parseMethodDescriptor "([BB)V" = some ⟨[(.array .byte), .byte], none⟩ := by decide +kernel
theorem pd4 : parseMethodDescriptor "(C)Ljava/lang/String;" = some ⟨[.char], (some (.object "java/lang/String"))⟩ := by decide +kernel
theorem pd5 : parseMethodDescriptor "(IIIIIDLjava/lang/String;)V" = some ⟨[.int, .int, .int, .int, .int, .double, (.object "java/lang/String")], none⟩ := by decide +kernel
theorem pd6 : parseMethodDescriptor "()Z" = some ⟨[], (some .boolean)⟩ := by decide +kernel
def D_rec : List (Nat × Instr × Nat) := [(0, .aload_n 0, 1), (1, .invokespecial 1, 3), (4, .return_, 1)]
theorem hD_rec : ∀ q ∈ D_rec, decode jdk_30_method_1_code q.1 = .ok q.2 := by decide +kernel
set_option maxRecDepth 65536 in
set_option maxHeartbeats 4000000 in
theorem c_rec (l : Launch) (Z : State) (a0 : Array Value) (hw : ∀ d ∈ tables_1, d.before a0 Z = true) (hEL : EW Z a0 []) {a : Addr} {h : Heap} : Ctr l Z [] (⟨"java/lang/Record", "<init>", "()V"⟩ : MethodName) jdk_30_method_1_code 1 none [] ({ frames := 1, cells := 0, slots := 0, locals := 12 } : Room) [] #[(.ref a)] h (fun v h' S => v = none ∧ h = h') := by
  refine enter (a0 := a0) (by first | (simp [plainName, overriddenIn]; done) | decide +kernel) hEL (Ls := #[.val (.ref a)]) (fun m => by first | (simp [entryFrame, mkF, argsToLocals, Value.category]; done) | rfl) ?_
  intro κ vm T hby hs w Sf
  have dc := Dec.of hby hD_rec
  show Go κ (GQ κ Z [] ({ frames := 1, cells := 0, slots := 0, locals := 12 } : Room) (fun v h' S => v = none ∧ h = h')) T 0 #[.val (.ref a)] []
  refine blk (pc' := 1) (Ls' := #[.val (.ref a)]) (st' := [(.ref a)]) [oAloadN w.ok (dc.g 0 rfl)] rfl ?_
  refine w.initO (wd hw 11 rfl) (wd hw 12 rfl) (wd hw 13 rfl) rfl (dc.g 1 rfl) (by decide) (Wd := 0) (Nat.le_of_eq rfl) (by decide) ?_
  intro T1 w2
  show Go κ _ T1 4 #[.val (.ref a)] []
  exact w2.retV (dc.g 2 rfl) (by decide) (by decide) (fun S hS => ⟨rfl, rfl⟩)
def D_out : List (Nat × Instr × Nat) := [(0, .aload_n 0, 1), (1, .invokespecial 1, 3), (4, .aload_n 0, 1), (5, .iload_n 1, 1), (6, .putfield 7, 3), (9, .aload_n 0, 1), (10, .iload_n 2, 1), (11, .putfield 13, 3), (14, .aload_n 0, 1), (15, .iload_n 3, 1), (16, .putfield 16, 3), (19, .aload_n 0, 1), (20, .iload 4, 2), (22, .putfield 19, 3), (25, .aload_n 0, 1), (26, .iload 5, 2), (28, .putfield 22, 3), (31, .aload_n 0, 1), (32, .dload 6, 2), (34, .putfield 25, 3), (37, .aload_n 0, 1), (38, .aload 8, 2), (40, .putfield 29, 3), (43, .return_, 1)]
theorem hD_out : ∀ q ∈ D_out, decode prog_119_method_1_code q.1 = .ok q.2 := by decide +kernel
set_option maxRecDepth 65536 in
set_option maxHeartbeats 4000000 in
theorem c_out (l : Launch) (Z : State) (a0 : Array Value) (hw : ∀ d ∈ tables_1, d.before a0 Z = true) (hEL : EW Z a0 []) {a : Addr} {p1 p2 p3 p4 p5 : Int32} {r : UInt64} {u : Value} {h : Heap} (hu : u = .null ∨ ∃ b, u = .ref b) (ha : Z.heap.size ≤ a) (X : Exa Z h a "com/example/heronbus/heronbus/stomp/Load$Outcome") (F_sent : Fld Z h a "com/example/heronbus/heronbus/stomp/Load$Outcome" "sent" "I" (.int 0)) (F_receipted : Fld Z h a "com/example/heronbus/heronbus/stomp/Load$Outcome" "receipted" "I" (.int 0)) (F_received : Fld Z h a "com/example/heronbus/heronbus/stomp/Load$Outcome" "received" "I" (.int 0)) (F_lost : Fld Z h a "com/example/heronbus/heronbus/stomp/Load$Outcome" "lost" "I" (.int 0)) (F_duplicated : Fld Z h a "com/example/heronbus/heronbus/stomp/Load$Outcome" "duplicated" "I" (.int 0)) (F_rate : Fld Z h a "com/example/heronbus/heronbus/stomp/Load$Outcome" "rate" "D" (.double 0)) (F_failure : Fld Z h a "com/example/heronbus/heronbus/stomp/Load$Outcome" "failure" "Ljava/lang/String;" .null) : Ctr l Z [] (⟨"com/example/heronbus/heronbus/stomp/Load$Outcome", "<init>", "(IIIIIDLjava/lang/String;)V"⟩ : MethodName) prog_119_method_1_code 9 none [] ({ frames := 2, cells := 0, slots := 0, locals := 28 } : Room) [] #[(.ref a), (.int p1), (.int p2), (.int p3), (.int p4), (.int p5), (.double r), u] h (fun v h' S => v = none ∧ Keep h h' [a] ∧ Exa Z h' a "com/example/heronbus/heronbus/stomp/Load$Outcome" ∧ Fld Z h' a "com/example/heronbus/heronbus/stomp/Load$Outcome" "sent" "I" (.int p1) ∧ Fld Z h' a "com/example/heronbus/heronbus/stomp/Load$Outcome" "receipted" "I" (.int p2) ∧ Fld Z h' a "com/example/heronbus/heronbus/stomp/Load$Outcome" "received" "I" (.int p3) ∧ Fld Z h' a "com/example/heronbus/heronbus/stomp/Load$Outcome" "lost" "I" (.int p4) ∧ Fld Z h' a "com/example/heronbus/heronbus/stomp/Load$Outcome" "duplicated" "I" (.int p5) ∧ Fld Z h' a "com/example/heronbus/heronbus/stomp/Load$Outcome" "failure" "Ljava/lang/String;" u) := by
  have hur : u.isRef = true := by rcases hu with rfl | ⟨b, rfl⟩ <;> rfl
  have hun : narrow (.object "java/lang/String") u = u ∧ fits (.object "java/lang/String") u = true := by rcases hu with rfl | ⟨b, rfl⟩ <;> exact ⟨rfl, rfl⟩
  have huc : u.category = 1 := by rcases hu with rfl | ⟨b, rfl⟩ <;> rfl
  refine enter (a0 := a0) (by first | (simp [plainName, overriddenIn]; done) | decide +kernel) hEL (Ls := #[.val (.ref a), .val (.int p1), .val (.int p2), .val (.int p3), .val (.int p4), .val (.int p5), .val (.double r), .second, .val u]) (fun m => by first | (rcases hu with rfl | ⟨b, rfl⟩ <;> simp [entryFrame, mkF, argsToLocals, Value.category, huc]) | (simp [entryFrame, mkF, argsToLocals, Value.category, huc]; done) | rfl) ?_
  intro κ vm T hby hs w Sf
  have dc := Dec.of hby hD_out
  show Go κ (GQ κ Z [] ({ frames := 2, cells := 0, slots := 0, locals := 28 } : Room) (fun v h' S => v = none ∧ Keep h h' [a] ∧ Exa Z h' a "com/example/heronbus/heronbus/stomp/Load$Outcome" ∧ Fld Z h' a "com/example/heronbus/heronbus/stomp/Load$Outcome" "sent" "I" (.int p1) ∧ Fld Z h' a "com/example/heronbus/heronbus/stomp/Load$Outcome" "receipted" "I" (.int p2) ∧ Fld Z h' a "com/example/heronbus/heronbus/stomp/Load$Outcome" "received" "I" (.int p3) ∧ Fld Z h' a "com/example/heronbus/heronbus/stomp/Load$Outcome" "lost" "I" (.int p4) ∧ Fld Z h' a "com/example/heronbus/heronbus/stomp/Load$Outcome" "duplicated" "I" (.int p5) ∧ Fld Z h' a "com/example/heronbus/heronbus/stomp/Load$Outcome" "failure" "Ljava/lang/String;" u)) T 0 #[.val (.ref a), .val (.int p1), .val (.int p2), .val (.int p3), .val (.int p4), .val (.int p5), .val (.double r), .second, .val u] []
  refine blk (pc' := 1) (Ls' := #[.val (.ref a), .val (.int p1), .val (.int p2), .val (.int p3), .val (.int p4), .val (.int p5), .val (.double r), .second, .val u]) (st' := [(.ref a)]) [oAloadN w.ok (dc.g 0 rfl)] rfl ?_
  refine w.callI rfl (wd hw 6 rfl) (wd hw 7 rfl) (wd hw 10 rfl) (by decide) (a := a) (argsL := []) (Wd := 0) (Ctr.pays (len := 3) (Wd := 0) (c_rec l Z a0 hw hEL) w (wd hw 10 rfl) (wd hw 9 rfl) hEL (by decide) (by decide) sfNil) pd0 rfl (st := []) rfl rfl (Nat.le_of_eq rfl) (dc.g 1 rfl) (by decide) (by decide) ?_
  intro vm3 T4 h5 v6 w7 C8 Q9
  obtain ⟨rfl, rfl⟩ := Q9
  show Go κ _ T4 4 #[.val (.ref a), .val (.int p1), .val (.int p2), .val (.int p3), .val (.int p4), .val (.int p5), .val (.double r), .second, .val u] []
  refine blk (pc' := 6) (Ls' := #[.val (.ref a), .val (.int p1), .val (.int p2), .val (.int p3), .val (.int p4), .val (.int p5), .val (.double r), .second, .val u]) (st' := [(.int p1), (.ref a)]) [oAloadN w7.ok (dc.g 2 rfl), oIloadN w7.ok (dc.g 3 rfl)] rfl ?_
  refine w7.put (wd hw 14 rfl) F_sent X (Or.inr ⟨(wd hw 15 rfl), rfl, rfl⟩) (wd hw 1 rfl) (ty := .int) (by decide) rfl rfl safe_nil ha (dc.g 4 rfl) ?_
  intro T10 h12 w11 W13 S14
  show Go κ _ T10 9 #[.val (.ref a), .val (.int p1), .val (.int p2), .val (.int p3), .val (.int p4), .val (.int p5), .val (.double r), .second, .val u] []
  have K15 := ((Keep.refl h [a])).wr W13 (Or.inl (List.mem_of_getElem? (i := 0) rfl))
  have X16 := (X).wr W13
  have F17 : Fld Z h12 a "com/example/heronbus/heronbus/stomp/Load$Outcome" "sent" "I" (.int p1) := (F_sent).same W13
  have F18 := (F_receipted).other W13 (Or.inr (slot_ne (Or.inr (wd hw 17 rfl)) (Or.inr (wd hw 15 rfl)) (by decide) (t := .int) (by decide) (t' := .int) (by decide)))
  have F19 := (F_received).other W13 (Or.inr (slot_ne (Or.inr (wd hw 19 rfl)) (Or.inr (wd hw 15 rfl)) (by decide) (t := .int) (by decide) (t' := .int) (by decide)))
  have F20 := (F_lost).other W13 (Or.inr (slot_ne (Or.inr (wd hw 21 rfl)) (Or.inr (wd hw 15 rfl)) (by decide) (t := .int) (by decide) (t' := .int) (by decide)))
  have F21 := (F_duplicated).other W13 (Or.inr (slot_ne (Or.inr (wd hw 23 rfl)) (Or.inr (wd hw 15 rfl)) (by decide) (t := .int) (by decide) (t' := .int) (by decide)))
  have F22 := (F_rate).other W13 (Or.inr (slot_ne (Or.inr (wd hw 25 rfl)) (Or.inr (wd hw 15 rfl)) (by decide) (t := .double) (by decide) (t' := .int) (by decide)))
  have F23 := (F_failure).other W13 (Or.inr (slot_ne (Or.inr (wd hw 27 rfl)) (Or.inr (wd hw 15 rfl)) (by decide) (t := (.object "java/lang/String")) (by decide) (t' := .int) (by decide)))
  refine blk (pc' := 11) (Ls' := #[.val (.ref a), .val (.int p1), .val (.int p2), .val (.int p3), .val (.int p4), .val (.int p5), .val (.double r), .second, .val u]) (st' := [(.int p2), (.ref a)]) [oAloadN w11.ok (dc.g 5 rfl), oIloadN w11.ok (dc.g 6 rfl)] rfl ?_
  refine w11.put (wd hw 16 rfl) F18 X16 (Or.inr ⟨(wd hw 17 rfl), rfl, rfl⟩) (wd hw 1 rfl) (ty := .int) (by decide) rfl rfl safe_nil ha (dc.g 7 rfl) ?_
  intro T24 h26 w25 W27 S28
  show Go κ _ T24 14 #[.val (.ref a), .val (.int p1), .val (.int p2), .val (.int p3), .val (.int p4), .val (.int p5), .val (.double r), .second, .val u] []
  have K29 := (K15).wr W27 (Or.inl (List.mem_of_getElem? (i := 0) rfl))
  have X30 := (X16).wr W27
  have F31 := (F17).other W27 (Or.inr (slot_ne (Or.inr (wd hw 15 rfl)) (Or.inr (wd hw 17 rfl)) (by decide) (t := .int) (by decide) (t' := .int) (by decide)))
  have F32 : Fld Z h26 a "com/example/heronbus/heronbus/stomp/Load$Outcome" "receipted" "I" (.int p2) := (F18).same W27
  have F33 := (F19).other W27 (Or.inr (slot_ne (Or.inr (wd hw 19 rfl)) (Or.inr (wd hw 17 rfl)) (by decide) (t := .int) (by decide) (t' := .int) (by decide)))
  have F34 := (F20).other W27 (Or.inr (slot_ne (Or.inr (wd hw 21 rfl)) (Or.inr (wd hw 17 rfl)) (by decide) (t := .int) (by decide) (t' := .int) (by decide)))
  have F35 := (F21).other W27 (Or.inr (slot_ne (Or.inr (wd hw 23 rfl)) (Or.inr (wd hw 17 rfl)) (by decide) (t := .int) (by decide) (t' := .int) (by decide)))
  have F36 := (F22).other W27 (Or.inr (slot_ne (Or.inr (wd hw 25 rfl)) (Or.inr (wd hw 17 rfl)) (by decide) (t := .double) (by decide) (t' := .int) (by decide)))
  have F37 := (F23).other W27 (Or.inr (slot_ne (Or.inr (wd hw 27 rfl)) (Or.inr (wd hw 17 rfl)) (by decide) (t := (.object "java/lang/String")) (by decide) (t' := .int) (by decide)))
  refine blk (pc' := 16) (Ls' := #[.val (.ref a), .val (.int p1), .val (.int p2), .val (.int p3), .val (.int p4), .val (.int p5), .val (.double r), .second, .val u]) (st' := [(.int p3), (.ref a)]) [oAloadN w25.ok (dc.g 8 rfl), oIloadN w25.ok (dc.g 9 rfl)] rfl ?_
  refine w25.put (wd hw 18 rfl) F33 X30 (Or.inr ⟨(wd hw 19 rfl), rfl, rfl⟩) (wd hw 1 rfl) (ty := .int) (by decide) rfl rfl safe_nil ha (dc.g 10 rfl) ?_
  intro T38 h40 w39 W41 S42
  show Go κ _ T38 19 #[.val (.ref a), .val (.int p1), .val (.int p2), .val (.int p3), .val (.int p4), .val (.int p5), .val (.double r), .second, .val u] []
  have K43 := (K29).wr W41 (Or.inl (List.mem_of_getElem? (i := 0) rfl))
  have X44 := (X30).wr W41
  have F45 := (F31).other W41 (Or.inr (slot_ne (Or.inr (wd hw 15 rfl)) (Or.inr (wd hw 19 rfl)) (by decide) (t := .int) (by decide) (t' := .int) (by decide)))
  have F46 := (F32).other W41 (Or.inr (slot_ne (Or.inr (wd hw 17 rfl)) (Or.inr (wd hw 19 rfl)) (by decide) (t := .int) (by decide) (t' := .int) (by decide)))
  have F47 : Fld Z h40 a "com/example/heronbus/heronbus/stomp/Load$Outcome" "received" "I" (.int p3) := (F33).same W41
  have F48 := (F34).other W41 (Or.inr (slot_ne (Or.inr (wd hw 21 rfl)) (Or.inr (wd hw 19 rfl)) (by decide) (t := .int) (by decide) (t' := .int) (by decide)))
  have F49 := (F35).other W41 (Or.inr (slot_ne (Or.inr (wd hw 23 rfl)) (Or.inr (wd hw 19 rfl)) (by decide) (t := .int) (by decide) (t' := .int) (by decide)))
  have F50 := (F36).other W41 (Or.inr (slot_ne (Or.inr (wd hw 25 rfl)) (Or.inr (wd hw 19 rfl)) (by decide) (t := .double) (by decide) (t' := .int) (by decide)))
  have F51 := (F37).other W41 (Or.inr (slot_ne (Or.inr (wd hw 27 rfl)) (Or.inr (wd hw 19 rfl)) (by decide) (t := (.object "java/lang/String")) (by decide) (t' := .int) (by decide)))
  refine blk (pc' := 22) (Ls' := #[.val (.ref a), .val (.int p1), .val (.int p2), .val (.int p3), .val (.int p4), .val (.int p5), .val (.double r), .second, .val u]) (st' := [(.int p4), (.ref a)]) [oAloadN w39.ok (dc.g 11 rfl), oIload w39.ok (dc.g 12 rfl)] rfl ?_
  refine w39.put (wd hw 20 rfl) F48 X44 (Or.inr ⟨(wd hw 21 rfl), rfl, rfl⟩) (wd hw 1 rfl) (ty := .int) (by decide) rfl rfl safe_nil ha (dc.g 13 rfl) ?_
  intro T52 h54 w53 W55 S56
  show Go κ _ T52 25 #[.val (.ref a), .val (.int p1), .val (.int p2), .val (.int p3), .val (.int p4), .val (.int p5), .val (.double r), .second, .val u] []
  have K57 := (K43).wr W55 (Or.inl (List.mem_of_getElem? (i := 0) rfl))
  have X58 := (X44).wr W55
  have F59 := (F45).other W55 (Or.inr (slot_ne (Or.inr (wd hw 15 rfl)) (Or.inr (wd hw 21 rfl)) (by decide) (t := .int) (by decide) (t' := .int) (by decide)))
  have F60 := (F46).other W55 (Or.inr (slot_ne (Or.inr (wd hw 17 rfl)) (Or.inr (wd hw 21 rfl)) (by decide) (t := .int) (by decide) (t' := .int) (by decide)))
  have F61 := (F47).other W55 (Or.inr (slot_ne (Or.inr (wd hw 19 rfl)) (Or.inr (wd hw 21 rfl)) (by decide) (t := .int) (by decide) (t' := .int) (by decide)))
  have F62 : Fld Z h54 a "com/example/heronbus/heronbus/stomp/Load$Outcome" "lost" "I" (.int p4) := (F48).same W55
  have F63 := (F49).other W55 (Or.inr (slot_ne (Or.inr (wd hw 23 rfl)) (Or.inr (wd hw 21 rfl)) (by decide) (t := .int) (by decide) (t' := .int) (by decide)))
  have F64 := (F50).other W55 (Or.inr (slot_ne (Or.inr (wd hw 25 rfl)) (Or.inr (wd hw 21 rfl)) (by decide) (t := .double) (by decide) (t' := .int) (by decide)))
  have F65 := (F51).other W55 (Or.inr (slot_ne (Or.inr (wd hw 27 rfl)) (Or.inr (wd hw 21 rfl)) (by decide) (t := (.object "java/lang/String")) (by decide) (t' := .int) (by decide)))
  refine blk (pc' := 28) (Ls' := #[.val (.ref a), .val (.int p1), .val (.int p2), .val (.int p3), .val (.int p4), .val (.int p5), .val (.double r), .second, .val u]) (st' := [(.int p5), (.ref a)]) [oAloadN w53.ok (dc.g 14 rfl), oIload w53.ok (dc.g 15 rfl)] rfl ?_
  refine w53.put (wd hw 22 rfl) F63 X58 (Or.inr ⟨(wd hw 23 rfl), rfl, rfl⟩) (wd hw 1 rfl) (ty := .int) (by decide) rfl rfl safe_nil ha (dc.g 16 rfl) ?_
  intro T66 h68 w67 W69 S70
  show Go κ _ T66 31 #[.val (.ref a), .val (.int p1), .val (.int p2), .val (.int p3), .val (.int p4), .val (.int p5), .val (.double r), .second, .val u] []
  have K71 := (K57).wr W69 (Or.inl (List.mem_of_getElem? (i := 0) rfl))
  have X72 := (X58).wr W69
  have F73 := (F59).other W69 (Or.inr (slot_ne (Or.inr (wd hw 15 rfl)) (Or.inr (wd hw 23 rfl)) (by decide) (t := .int) (by decide) (t' := .int) (by decide)))
  have F74 := (F60).other W69 (Or.inr (slot_ne (Or.inr (wd hw 17 rfl)) (Or.inr (wd hw 23 rfl)) (by decide) (t := .int) (by decide) (t' := .int) (by decide)))
  have F75 := (F61).other W69 (Or.inr (slot_ne (Or.inr (wd hw 19 rfl)) (Or.inr (wd hw 23 rfl)) (by decide) (t := .int) (by decide) (t' := .int) (by decide)))
  have F76 := (F62).other W69 (Or.inr (slot_ne (Or.inr (wd hw 21 rfl)) (Or.inr (wd hw 23 rfl)) (by decide) (t := .int) (by decide) (t' := .int) (by decide)))
  have F77 : Fld Z h68 a "com/example/heronbus/heronbus/stomp/Load$Outcome" "duplicated" "I" (.int p5) := (F63).same W69
  have F78 := (F64).other W69 (Or.inr (slot_ne (Or.inr (wd hw 25 rfl)) (Or.inr (wd hw 23 rfl)) (by decide) (t := .double) (by decide) (t' := .int) (by decide)))
  have F79 := (F65).other W69 (Or.inr (slot_ne (Or.inr (wd hw 27 rfl)) (Or.inr (wd hw 23 rfl)) (by decide) (t := (.object "java/lang/String")) (by decide) (t' := .int) (by decide)))
  refine blk (pc' := 34) (Ls' := #[.val (.ref a), .val (.int p1), .val (.int p2), .val (.int p3), .val (.int p4), .val (.int p5), .val (.double r), .second, .val u]) (st' := [(.double r), (.ref a)]) [oAloadN w67.ok (dc.g 17 rfl), oDload w67.ok (dc.g 18 rfl)] rfl ?_
  refine w67.put (wd hw 24 rfl) F78 X72 (Or.inr ⟨(wd hw 25 rfl), rfl, rfl⟩) (wd hw 1 rfl) (ty := .double) (by decide) rfl rfl safe_nil ha (dc.g 19 rfl) ?_
  intro T80 h82 w81 W83 S84
  show Go κ _ T80 37 #[.val (.ref a), .val (.int p1), .val (.int p2), .val (.int p3), .val (.int p4), .val (.int p5), .val (.double r), .second, .val u] []
  have K85 := (K71).wr W83 (Or.inl (List.mem_of_getElem? (i := 0) rfl))
  have X86 := (X72).wr W83
  have F87 := (F73).other W83 (Or.inr (slot_ne (Or.inr (wd hw 15 rfl)) (Or.inr (wd hw 25 rfl)) (by decide) (t := .int) (by decide) (t' := .double) (by decide)))
  have F88 := (F74).other W83 (Or.inr (slot_ne (Or.inr (wd hw 17 rfl)) (Or.inr (wd hw 25 rfl)) (by decide) (t := .int) (by decide) (t' := .double) (by decide)))
  have F89 := (F75).other W83 (Or.inr (slot_ne (Or.inr (wd hw 19 rfl)) (Or.inr (wd hw 25 rfl)) (by decide) (t := .int) (by decide) (t' := .double) (by decide)))
  have F90 := (F76).other W83 (Or.inr (slot_ne (Or.inr (wd hw 21 rfl)) (Or.inr (wd hw 25 rfl)) (by decide) (t := .int) (by decide) (t' := .double) (by decide)))
  have F91 := (F77).other W83 (Or.inr (slot_ne (Or.inr (wd hw 23 rfl)) (Or.inr (wd hw 25 rfl)) (by decide) (t := .int) (by decide) (t' := .double) (by decide)))
  have F92 : Fld Z h82 a "com/example/heronbus/heronbus/stomp/Load$Outcome" "rate" "D" (.double r) := (F78).same W83
  have F93 := (F79).other W83 (Or.inr (slot_ne (Or.inr (wd hw 27 rfl)) (Or.inr (wd hw 25 rfl)) (by decide) (t := (.object "java/lang/String")) (by decide) (t' := .double) (by decide)))
  refine blk (pc' := 38) (Ls' := #[.val (.ref a), .val (.int p1), .val (.int p2), .val (.int p3), .val (.int p4), .val (.int p5), .val (.double r), .second, .val u]) (st' := [(.ref a)]) [oAloadN w81.ok (dc.g 20 rfl)] rfl ?_
  refine aloadV w81.ok (dc.g 21 rfl) rfl hur ?_
  show Go κ _ T80 40 #[.val (.ref a), .val (.int p1), .val (.int p2), .val (.int p3), .val (.int p4), .val (.int p5), .val (.double r), .second, .val u] [u, (.ref a)]
  refine w81.put (wd hw 26 rfl) F93 X86 (Or.inr ⟨(wd hw 27 rfl), rfl, rfl⟩) (wd hw 1 rfl) (ty := (.object "java/lang/String")) (by decide) (hun).1 (hun).2 safe_nil ha (dc.g 22 rfl) ?_
  intro T94 h96 w95 W97 S98
  show Go κ _ T94 43 #[.val (.ref a), .val (.int p1), .val (.int p2), .val (.int p3), .val (.int p4), .val (.int p5), .val (.double r), .second, .val u] []
  have K99 := (K85).wr W97 (Or.inl (List.mem_of_getElem? (i := 0) rfl))
  have X100 := (X86).wr W97
  have F101 := (F87).other W97 (Or.inr (slot_ne (Or.inr (wd hw 15 rfl)) (Or.inr (wd hw 27 rfl)) (by decide) (t := .int) (by decide) (t' := (.object "java/lang/String")) (by decide)))
  have F102 := (F88).other W97 (Or.inr (slot_ne (Or.inr (wd hw 17 rfl)) (Or.inr (wd hw 27 rfl)) (by decide) (t := .int) (by decide) (t' := (.object "java/lang/String")) (by decide)))
  have F103 := (F89).other W97 (Or.inr (slot_ne (Or.inr (wd hw 19 rfl)) (Or.inr (wd hw 27 rfl)) (by decide) (t := .int) (by decide) (t' := (.object "java/lang/String")) (by decide)))
  have F104 := (F90).other W97 (Or.inr (slot_ne (Or.inr (wd hw 21 rfl)) (Or.inr (wd hw 27 rfl)) (by decide) (t := .int) (by decide) (t' := (.object "java/lang/String")) (by decide)))
  have F105 := (F91).other W97 (Or.inr (slot_ne (Or.inr (wd hw 23 rfl)) (Or.inr (wd hw 27 rfl)) (by decide) (t := .int) (by decide) (t' := (.object "java/lang/String")) (by decide)))
  have F106 := (F92).other W97 (Or.inr (slot_ne (Or.inr (wd hw 25 rfl)) (Or.inr (wd hw 27 rfl)) (by decide) (t := .double) (by decide) (t' := (.object "java/lang/String")) (by decide)))
  have F107 : Fld Z h96 a "com/example/heronbus/heronbus/stomp/Load$Outcome" "failure" "Ljava/lang/String;" u := (F93).same W97
  exact w95.retV (dc.g 23 rfl) (by decide) (by decide) (fun S hS => ⟨rfl, K99, X100, F101, F102, F103, F104, F105, F107⟩)
def D_clean : List (Nat × Instr × Nat) := [(0, .aload_n 0, 1), (1, .getfield 29, 3), (4, .ifnonnull 43, 3), (7, .aload_n 0, 1), (8, .getfield 13, 3), (11, .aload_n 0, 1), (12, .getfield 7, 3), (15, .if_icmp .ne 32, 3), (18, .aload_n 0, 1), (19, .getfield 16, 3), (22, .aload_n 0, 1), (23, .getfield 7, 3), (26, .if_icmp .ne 21, 3), (29, .aload_n 0, 1), (30, .getfield 19, 3), (33, .ifCond .ne 14, 3), (36, .aload_n 0, 1), (37, .getfield 22, 3), (40, .ifCond .ne 7, 3), (43, .iconst 1, 1), (44, .goto 4, 3), (47, .iconst 0, 1), (48, .ireturn, 1)]
theorem hD_clean : ∀ q ∈ D_clean, decode prog_119_method_2_code q.1 = .ok q.2 := by decide +kernel
set_option maxRecDepth 65536 in
set_option maxHeartbeats 4000000 in
theorem c_clean (l : Launch) (Z : State) (a0 : Array Value) (hw : ∀ d ∈ tables_1, d.before a0 Z = true) (hEL : EW Z a0 []) {a : Addr} {p1 p2 p3 p4 p5 : Int32} {u : Value} {h : Heap} (hu : u = .null ∨ ∃ b, u = .ref b) (F_sent : Fld Z h a "com/example/heronbus/heronbus/stomp/Load$Outcome" "sent" "I" (.int p1)) (F_receipted : Fld Z h a "com/example/heronbus/heronbus/stomp/Load$Outcome" "receipted" "I" (.int p2)) (F_received : Fld Z h a "com/example/heronbus/heronbus/stomp/Load$Outcome" "received" "I" (.int p3)) (F_lost : Fld Z h a "com/example/heronbus/heronbus/stomp/Load$Outcome" "lost" "I" (.int p4)) (F_duplicated : Fld Z h a "com/example/heronbus/heronbus/stomp/Load$Outcome" "duplicated" "I" (.int p5)) (F_failure : Fld Z h a "com/example/heronbus/heronbus/stomp/Load$Outcome" "failure" "Ljava/lang/String;" u) : Ctr l Z [] (⟨"com/example/heronbus/heronbus/stomp/Load$Outcome", "clean", "()Z"⟩ : MethodName) prog_119_method_2_code 1 (some .boolean) [] ({ frames := 0, cells := 0, slots := 0, locals := 0 } : Room) [] #[(.ref a)] h (fun v h' S => h = h' ∧ v = some (.int (if u = .null ∧ p2 = p1 ∧ p3 = p1 ∧ p4 = 0 ∧ p5 = 0 then 1 else 0))) := by
  refine enter (a0 := a0) (by first | (simp [plainName, overriddenIn]; done) | decide +kernel) hEL (Ls := #[.val (.ref a)]) (fun m => by first | (simp [entryFrame, mkF, argsToLocals, Value.category]; done) | rfl) ?_
  intro κ vm T hby hs w Sf
  have dc := Dec.of hby hD_clean
  show Go κ (GQ κ Z [] ({ frames := 0, cells := 0, slots := 0, locals := 0 } : Room) (fun v h' S => h = h' ∧ v = some (.int (if u = .null ∧ p2 = p1 ∧ p3 = p1 ∧ p4 = 0 ∧ p5 = 0 then 1 else 0)))) T 0 #[.val (.ref a)] []
  refine blk (pc' := 1) (Ls' := #[.val (.ref a)]) (st' := [(.ref a)]) [oAloadN w.ok (dc.g 0 rfl)] rfl ?_
  refine w.get (wd hw 26 rfl) F_failure (dc.g 1 rfl) ?_
  intro T108 w109
  show Go κ _ T108 4 #[.val (.ref a)] [u]
  rcases hu with rfl | ⟨b, rfl⟩
  · show Go κ _ T108 4 #[.val (.ref a)] [.null]
    refine nnNull w109.ok (dc.g 2 rfl) ?_
    show Go κ _ T108 7 #[.val (.ref a)] []
    refine blk (pc' := 8) (Ls' := #[.val (.ref a)]) (st' := [(.ref a)]) [oAloadN w109.ok (dc.g 3 rfl)] rfl ?_
    refine w109.get (wd hw 16 rfl) F_receipted (dc.g 4 rfl) ?_
    intro T110 w111
    show Go κ _ T110 11 #[.val (.ref a)] [(.int p2)]
    refine blk (pc' := 12) (Ls' := #[.val (.ref a)]) (st' := [(.ref a), (.int p2)]) [oAloadN w111.ok (dc.g 5 rfl)] rfl ?_
    refine w111.get (wd hw 14 rfl) F_sent (dc.g 6 rfl) ?_
    intro T112 w113
    show Go κ _ T112 15 #[.val (.ref a)] [(.int p1), (.int p2)]
    refine cNe (pc' := 47) w113.ok (dc.g 7 rfl) (by decide) (by decide) (fun hc114 => ?_) (fun hc114 => ?_)
    · show Go κ _ T112 47 #[.val (.ref a)] []
      refine blk (pc' := 48) (Ls' := #[.val (.ref a)]) (st' := [(.int (0 : Int32))]) [oIconst w113.ok (dc.g 21 rfl)] rfl ?_
      exact w113.retI (t := .boolean) rfl (Or.inr (Or.inl rfl)) rfl (dc.g 22 rfl) (by decide) (by decide) (fun S hS => ⟨rfl, by rw [if_neg (fun q => hc114 q.2.1)]⟩)
    · show Go κ _ T112 18 #[.val (.ref a)] []
      refine blk (pc' := 19) (Ls' := #[.val (.ref a)]) (st' := [(.ref a)]) [oAloadN w113.ok (dc.g 8 rfl)] rfl ?_
      refine w113.get (wd hw 18 rfl) F_received (dc.g 9 rfl) ?_
      intro T115 w116
      show Go κ _ T115 22 #[.val (.ref a)] [(.int p3)]
      refine blk (pc' := 23) (Ls' := #[.val (.ref a)]) (st' := [(.ref a), (.int p3)]) [oAloadN w116.ok (dc.g 10 rfl)] rfl ?_
      refine w116.get (wd hw 14 rfl) F_sent (dc.g 11 rfl) ?_
      intro T117 w118
      show Go κ _ T117 26 #[.val (.ref a)] [(.int p1), (.int p3)]
      refine cNe (pc' := 47) w118.ok (dc.g 12 rfl) (by decide) (by decide) (fun hc119 => ?_) (fun hc119 => ?_)
      · show Go κ _ T117 47 #[.val (.ref a)] []
        refine blk (pc' := 48) (Ls' := #[.val (.ref a)]) (st' := [(.int (0 : Int32))]) [oIconst w118.ok (dc.g 21 rfl)] rfl ?_
        exact w118.retI (t := .boolean) rfl (Or.inr (Or.inl rfl)) rfl (dc.g 22 rfl) (by decide) (by decide) (fun S hS => ⟨rfl, by rw [if_neg (fun q => hc119 q.2.2.1)]⟩)
      · show Go κ _ T117 29 #[.val (.ref a)] []
        refine blk (pc' := 30) (Ls' := #[.val (.ref a)]) (st' := [(.ref a)]) [oAloadN w118.ok (dc.g 13 rfl)] rfl ?_
        refine w118.get (wd hw 20 rfl) F_lost (dc.g 14 rfl) ?_
        intro T120 w121
        show Go κ _ T120 33 #[.val (.ref a)] [(.int p4)]
        refine zNe (pc' := 47) w121.ok (dc.g 15 rfl) (by decide) (by decide) (fun hc122 => ?_) (fun hc122 => ?_)
        · show Go κ _ T120 47 #[.val (.ref a)] []
          refine blk (pc' := 48) (Ls' := #[.val (.ref a)]) (st' := [(.int (0 : Int32))]) [oIconst w121.ok (dc.g 21 rfl)] rfl ?_
          exact w121.retI (t := .boolean) rfl (Or.inr (Or.inl rfl)) rfl (dc.g 22 rfl) (by decide) (by decide) (fun S hS => ⟨rfl, by rw [if_neg (fun q => hc122 q.2.2.2.1)]⟩)
        · show Go κ _ T120 36 #[.val (.ref a)] []
          refine blk (pc' := 37) (Ls' := #[.val (.ref a)]) (st' := [(.ref a)]) [oAloadN w121.ok (dc.g 16 rfl)] rfl ?_
          refine w121.get (wd hw 22 rfl) F_duplicated (dc.g 17 rfl) ?_
          intro T123 w124
          show Go κ _ T123 40 #[.val (.ref a)] [(.int p5)]
          refine zNe (pc' := 47) w124.ok (dc.g 18 rfl) (by decide) (by decide) (fun hc125 => ?_) (fun hc125 => ?_)
          · show Go κ _ T123 47 #[.val (.ref a)] []
            refine blk (pc' := 48) (Ls' := #[.val (.ref a)]) (st' := [(.int (0 : Int32))]) [oIconst w124.ok (dc.g 21 rfl)] rfl ?_
            exact w124.retI (t := .boolean) rfl (Or.inr (Or.inl rfl)) rfl (dc.g 22 rfl) (by decide) (by decide) (fun S hS => ⟨rfl, by rw [if_neg (fun q => hc125 q.2.2.2.2)]⟩)
          · show Go κ _ T123 43 #[.val (.ref a)] []
            refine blk (pc' := 48) (Ls' := #[.val (.ref a)]) (st' := [(.int (1 : Int32))]) [oIconst w124.ok (dc.g 19 rfl), oGoto w124.ok 48 (dc.g 20 rfl)] rfl ?_
            exact w124.retI (t := .boolean) rfl (Or.inr (Or.inl rfl)) rfl (dc.g 22 rfl) (by decide) (by decide) (fun S hS => ⟨rfl, by rw [if_pos ⟨rfl, hc114, hc119, hc122, hc125⟩]⟩)
  · show Go κ _ T108 4 #[.val (.ref a)] [(.ref b)]
    refine nnRef (pc' := 47) w109.ok (dc.g 2 rfl) (by decide) (by decide) ?_
    show Go κ _ T108 47 #[.val (.ref a)] []
    refine blk (pc' := 48) (Ls' := #[.val (.ref a)]) (st' := [(.int (0 : Int32))]) [oIconst w109.ok (dc.g 21 rfl)] rfl ?_
    exact w109.retI (t := .boolean) rfl (Or.inr (Or.inl rfl)) rfl (dc.g 22 rfl) (by decide) (by decide) (fun S hS => ⟨rfl, by rw [if_neg (fun q => nomatch q.1)]⟩)
def D_enc : List (Nat × Instr × Nat) := [(0, .iload_n 0, 1), (1, .sipush 255, 3), (4, .if_icmp .gt 7, 3), (7, .iconst 1, 1), (8, .goto 4, 3), (11, .iconst 0, 1), (12, .ireturn, 1)]
theorem hD_enc : ∀ q ∈ D_enc, decode jdk_43_method_3_code q.1 = .ok q.2 := by decide +kernel
set_option maxRecDepth 65536 in
set_option maxHeartbeats 4000000 in
theorem c_enc (l : Launch) (Z : State) (a0 : Array Value) (hw : ∀ d ∈ tables_1, d.before a0 Z = true) (hEL : EW Z a0 []) {c : Int32} {h : Heap} (hc : ¬ (255 : Int32) < c) : Ctr l Z [] (⟨"java/lang/StringLatin1", "canEncode", "(C)Z"⟩ : MethodName) jdk_43_method_3_code 1 (some .boolean) [] ({ frames := 0, cells := 0, slots := 0, locals := 0 } : Room) [] #[(.int c)] h (fun v h' S => h = h' ∧ v = some (.int 1)) := by
  refine enter (a0 := a0) (by first | (simp [plainName, overriddenIn]; done) | decide +kernel) hEL (Ls := #[.val (.int c)]) (fun m => by first | (simp [entryFrame, mkF, argsToLocals, Value.category]; done) | rfl) ?_
  intro κ vm T hby hs w Sf
  have dc := Dec.of hby hD_enc
  show Go κ (GQ κ Z [] ({ frames := 0, cells := 0, slots := 0, locals := 0 } : Room) (fun v h' S => h = h' ∧ v = some (.int 1))) T 0 #[.val (.int c)] []
  refine blk (pc' := 4) (Ls' := #[.val (.int c)]) (st' := [(.int (255 : Int32)), (.int c)]) [oIloadN w.ok (dc.g 0 rfl), oSipush w.ok (dc.g 1 rfl)] rfl ?_
  refine cGt (pc' := 11) w.ok (dc.g 2 rfl) (by decide) (by decide) (fun hc126 => absurd hc126 hc) (fun hc126 => ?_)
  show Go κ _ T 7 #[.val (.int c)] []
  refine blk (pc' := 12) (Ls' := #[.val (.int c)]) (st' := [(.int (1 : Int32))]) [oIconst w.ok (dc.g 3 rfl), oGoto w.ok 12 (dc.g 4 rfl)] rfl ?_
  exact w.retI (t := .boolean) rfl (Or.inr (Or.inl rfl)) rfl (dc.g 6 rfl) (by decide) (by decide) (fun S hS => ⟨rfl, rfl⟩)
def D_tob : List (Nat × Instr × Nat) := [(0, .iconst 1, 1), (1, .newarray .byte, 2), (3, .dup, 1), (4, .iconst 0, 1), (5, .iload_n 0, 1), (6, .i2b, 1), (7, .bastore, 1), (8, .areturn, 1)]
theorem hD_tob : ∀ q ∈ D_tob, decode jdk_43_method_46_code q.1 = .ok q.2 := by decide +kernel
set_option maxRecDepth 65536 in
set_option maxHeartbeats 4000000 in
theorem c_tob (l : Launch) (Z : State) (a0 : Array Value) (hw : ∀ d ∈ tables_1, d.before a0 Z = true) (hEL : EW Z a0 []) {c : Int32} {h : Heap} (hz : Z.heap.size ≤ h.size) : Ctr l Z [] (⟨"java/lang/StringLatin1", "toBytes", "(C)[B"⟩ : MethodName) jdk_43_method_46_code 1 (some (.array .byte)) [] ({ frames := 0, cells := 1, slots := 1, locals := 0 } : Room) [] #[(.int c)] h (fun v h' S => Keep h h' [] ∧ ∃ x, v = some (.ref x)) := by
  refine enter (a0 := a0) (by first | (simp [plainName, overriddenIn]; done) | decide +kernel) hEL (Ls := #[.val (.int c)]) (fun m => by first | (simp [entryFrame, mkF, argsToLocals, Value.category]; done) | rfl) ?_
  intro κ vm T hby hs w Sf
  have dc := Dec.of hby hD_tob
  show Go κ (GQ κ Z [] ({ frames := 0, cells := 1, slots := 1, locals := 0 } : Room) (fun v h' S => Keep h h' [] ∧ ∃ x, v = some (.ref x))) T 0 #[.val (.int c)] []
  refine blk (pc' := 1) (Ls' := #[.val (.int c)]) (st' := [(.int (1 : Int32))]) [oIconst w.ok (dc.g 0 rfl)] rfl ?_
  refine w.newarr (aty := .byte) (wd hw 47 rfl) (dc.g 1 rfl) (c := 1) (by decide) (by decide) (cap := 1) (by first | decide | omega) (by first | decide | omega) (by decide) (by decide) rfl rfl ?_
  intro T127 h129 x130 w128 g131 E132 F133 S134
  show Go κ _ T127 3 #[.val (.int c)] [(.ref x130)]
  refine blk (pc' := 7) (Ls' := #[.val (.int c)]) (st' := [(.int ((c).toInt8.toInt32)), (.int (0 : Int32)), (.ref x130), (.ref x130)]) [oDup w128.ok (dc.g 2 rfl), oIconst w128.ok (dc.g 3 rfl), oIloadN w128.ok (dc.g 4 rfl), oI2b w128.ok (dc.g 5 rfl)] rfl ?_
  refine w128.bst F133 (i := 0) rfl (by decide) rfl (by rw [show nar .byte (c.toInt8.toInt32) = c.toInt8.toInt32 from by simp [nar]]; exact Jvm.Free.SBG.fits_of_int8 _) S134 (by rw [g131]; exact hz) (dc.g 6 rfl) ?_
  intro T135 h137 w136 W138 F139 S140
  show Go κ _ T135 8 #[.val (.int c)] [(.ref x130)]
  obtain ⟨sl, vv, W138q⟩ := W138
  exact w136.retA rfl rfl rfl rfl (dc.g 7 rfl) (by decide) (by decide) (fun S hS => ⟨((Keep.refl h []).ext E132).wr W138q (Or.inr (by rw [g131]; exact Nat.le_refl _)), _, rfl⟩)
def D_sini : List (Nat × Instr × Nat) := [(0, .aload_n 0, 1), (1, .invokespecial 1, 3), (4, .aload_n 0, 1), (5, .aload_n 1, 1), (6, .putfield 9, 3), (9, .aload_n 0, 1), (10, .iload_n 2, 1), (11, .putfield 15, 3), (14, .return_, 1)]
theorem hD_sini : ∀ q ∈ D_sini, decode jdk_42_method_151_code q.1 = .ok q.2 := by decide +kernel
set_option maxRecDepth 65536 in
set_option maxHeartbeats 4000000 in
theorem c_sini (l : Launch) (Z : State) (a0 : Array Value) (hw : ∀ d ∈ tables_1, d.before a0 Z = true) (hEL : EW Z a0 []) {a b : Addr} {h : Heap} (ha : Z.heap.size ≤ a) (X : Exa Z h a "java/lang/String") (F1 : Fld Z h a "java/lang/String" "value" "[B" .null) (F2 : Fld Z h a "java/lang/String" "coder" "B" (.int 0)) : Ctr l Z [] (⟨"java/lang/String", "<init>", "([BB)V"⟩ : MethodName) jdk_42_method_151_code 3 none [] ({ frames := 1, cells := 0, slots := 0, locals := 14 } : Room) [] #[(.ref a), (.ref b), (.int (0 : Int32))] h (fun v h' S => v = none ∧ Keep h h' [a]) := by
  refine enter (a0 := a0) (by first | (simp [plainName, overriddenIn]; done) | decide +kernel) hEL (Ls := #[.val (.ref a), .val (.ref b), .val (.int (0 : Int32))]) (fun m => by first | (simp [entryFrame, mkF, argsToLocals, Value.category]; done) | rfl) ?_
  intro κ vm T hby hs w Sf
  have dc := Dec.of hby hD_sini
  show Go κ (GQ κ Z [] ({ frames := 1, cells := 0, slots := 0, locals := 14 } : Room) (fun v h' S => v = none ∧ Keep h h' [a])) T 0 #[.val (.ref a), .val (.ref b), .val (.int (0 : Int32))] []
  refine blk (pc' := 1) (Ls' := #[.val (.ref a), .val (.ref b), .val (.int (0 : Int32))]) (st' := [(.ref a)]) [oAloadN w.ok (dc.g 0 rfl)] rfl ?_
  refine w.initO (wd hw 52 rfl) (wd hw 12 rfl) (wd hw 13 rfl) rfl (dc.g 1 rfl) (by decide) (Wd := 0) (Nat.le_of_eq rfl) (by decide) ?_
  intro T141 w142
  show Go κ _ T141 4 #[.val (.ref a), .val (.ref b), .val (.int (0 : Int32))] []
  refine blk (pc' := 6) (Ls' := #[.val (.ref a), .val (.ref b), .val (.int (0 : Int32))]) (st' := [(.ref b), (.ref a)]) [oAloadN w142.ok (dc.g 2 rfl), oAloadN w142.ok (dc.g 3 rfl)] rfl ?_
  refine w142.put (wd hw 53 rfl) F1 X (Or.inr ⟨(wd hw 54 rfl), rfl, rfl⟩) (wd hw 43 rfl) (ty := (.array .byte)) (by decide) rfl rfl safe_nil ha (dc.g 4 rfl) ?_
  intro T143 h145 w144 W146 S147
  show Go κ _ T143 9 #[.val (.ref a), .val (.ref b), .val (.int (0 : Int32))] []
  have X1 := X.wr W146
  have G2 := F2.other W146 (Or.inr (slot_ne (Or.inr (wd hw 56 rfl)) (Or.inr (wd hw 54 rfl)) (by decide) (t := .byte) (by decide) (t' := .array .byte) (by decide)))
  refine blk (pc' := 11) (Ls' := #[.val (.ref a), .val (.ref b), .val (.int (0 : Int32))]) (st' := [(.int (0 : Int32)), (.ref a)]) [oAloadN w144.ok (dc.g 5 rfl), oIloadN w144.ok (dc.g 6 rfl)] rfl ?_
  refine w144.put (wd hw 55 rfl) G2 X1 (Or.inr ⟨(wd hw 56 rfl), rfl, rfl⟩) (wd hw 43 rfl) (ty := .byte) (by decide) rfl rfl safe_nil ha (dc.g 7 rfl) ?_
  intro T148 h150 w149 W151 S152
  show Go κ _ T148 14 #[.val (.ref a), .val (.ref b), .val (.int (0 : Int32))] []
  exact w149.retV (dc.g 8 rfl) (by decide) (by decide) (fun S hS => ⟨rfl, ((Keep.refl h [a]).wr W146 (Or.inl (List.mem_of_getElem? (i := 0) rfl))).wr W151 (Or.inl (List.mem_of_getElem? (i := 0) rfl))⟩)
def D_vof : List (Nat × Instr × Nat) := [(0, .getstatic 38, 3), (3, .ifCond .eq 23, 3), (6, .iload_n 0, 1), (7, .invokestatic 1015, 3), (10, .ifCond .eq 16, 3), (13, .new 10, 3), (16, .dup, 1), (17, .iload_n 0, 1), (18, .invokestatic 1018, 3), (21, .iconst 0, 1), (22, .invokespecial 209, 3), (25, .areturn, 1), (26, .new 10, 3), (29, .dup, 1), (30, .iload_n 0, 1), (31, .invokestatic 1021, 3), (34, .iconst 1, 1), (35, .invokespecial 209, 3), (38, .areturn, 1)]
theorem hD_vof : ∀ q ∈ D_vof, decode jdk_42_method_139_code q.1 = .ok q.2 := by decide +kernel
set_option maxRecDepth 65536 in
set_option maxHeartbeats 4000000 in
theorem c_vof (l : Launch) (Z : State) (a0 : Array Value) (hw : ∀ d ∈ tables_1, d.before a0 Z = true) (hEL : EW Z a0 []) {c cs : Int32} {h : Heap} (hc : ¬ (255 : Int32) < c) (hz : Z.heap.size ≤ h.size) (O : Sta Z h "java/lang/String" "COMPACT_STRINGS" "Z" (.int cs)) (P : ¬ cs = 0) : Ctr l Z [] (⟨"java/lang/String", "valueOf", "(C)Ljava/lang/String;"⟩ : MethodName) jdk_42_method_139_code 1 (some (.object "java/lang/String")) [] ({ frames := 2, cells := 2, slots := 5, locals := 45 } : Room) [] #[(.int c)] h (fun v h' S => Keep h h' [] ∧ ∃ x, v = some (.ref x)) := by
  refine enter (a0 := a0) (by first | (simp [plainName, overriddenIn]; done) | decide +kernel) hEL (Ls := #[.val (.int c)]) (fun m => by first | (simp [entryFrame, mkF, argsToLocals, Value.category]; done) | rfl) ?_
  intro κ vm T hby hs w Sf
  have dc := Dec.of hby hD_vof
  show Go κ (GQ κ Z [] ({ frames := 2, cells := 2, slots := 5, locals := 45 } : Room) (fun v h' S => Keep h h' [] ∧ ∃ x, v = some (.ref x))) T 0 #[.val (.int c)] []
  refine w.gets (wd hw 37 rfl) O (dc.g 0 rfl) ?_
  intro T153 w154
  show Go κ _ T153 3 #[.val (.int c)] [(.int cs)]
  refine zEq (pc' := 26) w154.ok (dc.g 1 rfl) (by decide) (by decide) (fun hc155 => absurd hc155 P) (fun hc155 => ?_)
  show Go κ _ T153 6 #[.val (.int c)] []
  refine blk (pc' := 7) (Ls' := #[.val (.int c)]) (st' := [(.int c)]) [oIloadN w154.ok (dc.g 2 rfl)] rfl ?_
  refine w154.callS (wd hw 38 rfl) (wd hw 39 rfl) (wd hw 40 rfl) (wd hw 41 rfl) (by decide) (argsL := [(.int c)]) (Wd := 0) (Ctr.pays (len := 3) (Wd := 0) (c_enc l Z a0 hw hEL hc) w154 (wd hw 41 rfl) (wd hw 40 rfl) hEL (by decide) (by decide) sfNil) pd1 rfl (st := []) rfl rfl (Nat.le_of_eq rfl) (dc.g 3 rfl) (by decide) (by decide) ?_
  intro vm156 T157 h158 v159 w160 C161 Q162
  obtain ⟨rfl, rfl⟩ := Q162
  show Go κ _ T157 10 #[.val (.int c)] [(.int (1 : Int32))]
  refine zEq (pc' := 26) w160.ok (dc.g 4 rfl) (by decide) (by decide) (fun hc163 => absurd hc163 (by decide)) (fun hc163 => ?_)
  show Go κ _ T157 13 #[.val (.int c)] []
  refine w160.new (wd hw 42 rfl) (wd hw 43 rfl) (wd hw 35 rfl) (dc.g 5 rfl) (by decide) (by decide) ?_
  intro T164 h166 x167 w165 g168 E169 X170 D171 S172
  show Go κ _ T164 16 #[.val (.int c)] [(.ref x167)]
  refine blk (pc' := 18) (Ls' := #[.val (.int c)]) (st' := [(.int c), (.ref x167), (.ref x167)]) [oDup w165.ok (dc.g 6 rfl), oIloadN w165.ok (dc.g 7 rfl)] rfl ?_
  refine w165.callS (wd hw 44 rfl) (wd hw 45 rfl) (wd hw 40 rfl) (wd hw 46 rfl) (by decide) (argsL := [(.int c)]) (Wd := 2) (Ctr.pays (len := 3) (Wd := 2) (c_tob l Z a0 hw hEL (Nat.le_trans hz E169.1)) w165 (wd hw 46 rfl) (wd hw 40 rfl) hEL (by decide) (by decide) sfNil) pd2 rfl (st := [(.ref x167), (.ref x167)]) rfl rfl (Nat.le_of_eq rfl) (dc.g 8 rfl) (by decide) (by decide) ?_
  intro vm173 T174 h175 v176 w177 C178 Q179
  obtain ⟨K2, y, rfl⟩ := Q179
  show Go κ _ T174 21 #[.val (.int c)] [(.ref y), (.ref x167), (.ref x167)]
  refine blk (pc' := 22) (Ls' := #[.val (.int c)]) (st' := [(.int (0 : Int32)), (.ref y), (.ref x167), (.ref x167)]) [oIconst w177.ok (dc.g 9 rfl)] rfl ?_
  have FV := (D171 (Or.inr (wd hw 54 rfl)) (ty := .array .byte) (by decide)).keep K2 nin0
  have FC := (D171 (Or.inr (wd hw 56 rfl)) (ty := .byte) (by decide)).keep K2 nin0
  refine w177.callI rfl (wd hw 48 rfl) (wd hw 49 rfl) (wd hw 51 rfl) (by decide) (a := x167) (argsL := [(.ref y), (.int (0 : Int32))]) (Wd := 1) (Ctr.pays (len := 3) (Wd := 1) (c_sini l Z a0 hw hEL (by rw [g168]; exact hz) (X170.keep K2) FV FC) w177 (wd hw 51 rfl) (wd hw 35 rfl) hEL (by decide) (by decide) sfNil) pd3 rfl (st := [(.ref x167)]) rfl rfl (Nat.le_of_eq rfl) (dc.g 10 rfl) (by decide) (by decide) ?_
  intro vm180 T181 h182 v183 w184 C185 Q186
  obtain ⟨rfl, K3⟩ := Q186
  show Go κ _ T181 25 #[.val (.int c)] [(.ref x167)]
  exact w184.retA rfl rfl rfl rfl (dc.g 11 rfl) (by decide) (by decide) (fun S hS => ⟨(((Keep.refl h []).ext E169).trans K2 all0).trans K3 (allS (Or.inr (by rw [g168]; exact Nat.le_refl _)) all0), _, rfl⟩)
def D_law : List (Nat × Instr × Nat) := [(0, .iload 5, 2), (2, .iconst 2, 1), (3, .iand, 1), (4, .ifCond .eq 7, 3), (7, .iload_n 0, 1), (8, .goto 6, 3), (11, .iload_n 0, 1), (12, .iload_n 1, 1), (13, .iadd, 1), (14, .istore 6, 2), (16, .iload 5, 2), (18, .iconst 4, 1), (19, .iand, 1), (20, .ifCond .eq 7, 3), (23, .iload_n 0, 1), (24, .goto 6, 3), (27, .iload_n 0, 1), (28, .iload_n 2, 1), (29, .iadd, 1), (30, .istore 7, 2), (32, .iload 5, 2), (34, .bipush 8, 2), (36, .iand, 1), (37, .ifCond .eq 7, 3), (40, .iconst 0, 1), (41, .goto 4, 3), (44, .iload_n 3, 1), (45, .istore 8, 2), (47, .iload 5, 2), (49, .bipush 16, 2), (51, .iand, 1), (52, .ifCond .eq 7, 3), (55, .iconst 0, 1), (56, .goto 5, 3), (59, .iload 4, 2), (61, .istore 9, 2), (63, .iload 5, 2), (65, .iconst 1, 1), (66, .iand, 1), (67, .ifCond .eq 9, 3), (70, .aconst_null, 1), (71, .astore 10, 2), (73, .goto 33, 3), (76, .iload 5, 2), (78, .bipush 32, 2), (80, .iand, 1), (81, .ifCond .eq 10, 3), (84, .ldc 7, 2), (86, .astore 10, 2), (88, .goto 18, 3), (91, .iload 5, 2), (93, .bipush 8, 2), (95, .iushr, 1), (96, .sipush 255, 3), (99, .iand, 1), (100, .i2c, 1), (101, .invokestatic 9, 3), (104, .astore 10, 2), (106, .iload 5, 2), (108, .bipush 16, 2), (110, .iushr, 1), (111, .sipush 255, 3), (114, .iand, 1), (115, .i2d, 1), (116, .dstore 11, 2), (118, .new 15, 3), (121, .dup, 1), (122, .iload_n 0, 1), (123, .iload 6, 2), (125, .iload 7, 2), (127, .iload 8, 2), (129, .iload 9, 2), (131, .dload 11, 2), (133, .aload 10, 2), (135, .invokespecial 17, 3), (138, .astore 13, 2), (140, .aload 10, 2), (142, .ifnonnull 25, 3), (145, .iload 6, 2), (147, .iload_n 0, 1), (148, .isub, 1), (149, .iload 7, 2), (151, .iload_n 0, 1), (152, .isub, 1), (153, .ior, 1), (154, .iload 8, 2), (156, .ior, 1), (157, .iload 9, 2), (159, .ior, 1), (160, .ifCond .ne 7, 3), (163, .iconst 1, 1), (164, .goto 4, 3), (167, .iconst 0, 1), (168, .istore 14, 2), (170, .aload 13, 2), (172, .invokevirtual 20, 3), (175, .iload 14, 2), (177, .if_icmp .ne 7, 3), (180, .iconst 1, 1), (181, .goto 4, 3), (184, .iconst 0, 1), (185, .ireturn, 1)]
theorem hD_law : ∀ q ∈ D_law, decode code q.1 = .ok q.2 := by decide +kernel
set_option maxRecDepth 65536 in
set_option maxHeartbeats 4000000 in
theorem c_law (l : Launch) (Z : State) (a0 : Array Value) (hw : ∀ d ∈ tables_1, d.before a0 Z = true) (hEL : EW Z a0 []) {p0 p1 p2 p3 p4 p5 cs : Int32} (h : Heap) (hh : h = Z.heap) (O : Sta Z Z.heap "java/lang/String" "COMPACT_STRINGS" "Z" (.int cs)) (P : ¬ cs = 0) (ws : List Jvm.Cond) : Ctr l Z [] x code maxLocals ret ws room_1 [] #[(.int p0), (.int p1), (.int p2), (.int p3), (.int p4), (.int p5)] h (fun v h' S => v = some (.int 1)) := by
  refine enter (a0 := a0) (by first | (simp [plainName, overriddenIn]; done) | decide +kernel) hEL (Ls := #[.val (.int p0), .val (.int p1), .val (.int p2), .val (.int p3), .val (.int p4), .val (.int p5), .unset, .unset, .unset, .unset, .unset, .unset, .unset, .unset, .unset]) (fun m => by first | (simp [entryFrame, mkF, argsToLocals, Value.category, maxLocals]; done) | rfl) ?_
  intro κ vm T hby hs w Sf
  have dc := Dec.of hby hD_law
  show Go κ (GQ κ Z [] room_1 (fun v h' S => v = some (.int 1))) T 0 #[.val (.int p0), .val (.int p1), .val (.int p2), .val (.int p3), .val (.int p4), .val (.int p5), .unset, .unset, .unset, .unset, .unset, .unset, .unset, .unset, .unset] []
  suffices k16 : ∀ r6 : Int32, Go κ (GQ κ Z [] room_1 (fun v h' S => v = some (.int 1))) T 16 #[.val (.int p0), .val (.int p1), .val (.int p2), .val (.int p3), .val (.int p4), .val (.int p5), .val (.int r6), .unset, .unset, .unset, .unset, .unset, .unset, .unset, .unset] [] by
    refine blk (pc' := 4) (Ls' := #[.val (.int p0), .val (.int p1), .val (.int p2), .val (.int p3), .val (.int p4), .val (.int p5), .unset, .unset, .unset, .unset, .unset, .unset, .unset, .unset, .unset]) (st' := [(.int (p5 &&& (2 : Int32)))]) [oIload w.ok (dc.g 0 rfl), oIconst w.ok (dc.g 1 rfl), oIand w.ok (dc.g 2 rfl)] rfl ?_
    refine zEq (pc' := 11) w.ok (dc.g 3 rfl) (by decide) (by decide) (fun hc187 => ?_) (fun hc187 => ?_)
    · show Go κ _ T 11 #[.val (.int p0), .val (.int p1), .val (.int p2), .val (.int p3), .val (.int p4), .val (.int p5), .unset, .unset, .unset, .unset, .unset, .unset, .unset, .unset, .unset] []
      refine blk (pc' := 16) (Ls' := #[.val (.int p0), .val (.int p1), .val (.int p2), .val (.int p3), .val (.int p4), .val (.int p5), .val (.int (p0 + p1)), .unset, .unset, .unset, .unset, .unset, .unset, .unset, .unset]) (st' := []) [oIloadN w.ok (dc.g 6 rfl), oIloadN w.ok (dc.g 7 rfl), oIadd w.ok (dc.g 8 rfl), oIstore w.ok (dc.g 9 rfl)] rfl ?_
      exact k16 _
    · show Go κ _ T 7 #[.val (.int p0), .val (.int p1), .val (.int p2), .val (.int p3), .val (.int p4), .val (.int p5), .unset, .unset, .unset, .unset, .unset, .unset, .unset, .unset, .unset] []
      refine blk (pc' := 16) (Ls' := #[.val (.int p0), .val (.int p1), .val (.int p2), .val (.int p3), .val (.int p4), .val (.int p5), .val (.int p0), .unset, .unset, .unset, .unset, .unset, .unset, .unset, .unset]) (st' := []) [oIloadN w.ok (dc.g 4 rfl), oGoto w.ok 14 (dc.g 5 rfl), oIstore w.ok (dc.g 9 rfl)] rfl ?_
      exact k16 _
  intro r6
  suffices k32 : ∀ r7 : Int32, Go κ (GQ κ Z [] room_1 (fun v h' S => v = some (.int 1))) T 32 #[.val (.int p0), .val (.int p1), .val (.int p2), .val (.int p3), .val (.int p4), .val (.int p5), .val (.int r6), .val (.int r7), .unset, .unset, .unset, .unset, .unset, .unset, .unset] [] by
    refine blk (pc' := 20) (Ls' := #[.val (.int p0), .val (.int p1), .val (.int p2), .val (.int p3), .val (.int p4), .val (.int p5), .val (.int r6), .unset, .unset, .unset, .unset, .unset, .unset, .unset, .unset]) (st' := [(.int (p5 &&& (4 : Int32)))]) [oIload w.ok (dc.g 10 rfl), oIconst w.ok (dc.g 11 rfl), oIand w.ok (dc.g 12 rfl)] rfl ?_
    refine zEq (pc' := 27) w.ok (dc.g 13 rfl) (by decide) (by decide) (fun hc188 => ?_) (fun hc188 => ?_)
    · show Go κ _ T 27 #[.val (.int p0), .val (.int p1), .val (.int p2), .val (.int p3), .val (.int p4), .val (.int p5), .val (.int r6), .unset, .unset, .unset, .unset, .unset, .unset, .unset, .unset] []
      refine blk (pc' := 32) (Ls' := #[.val (.int p0), .val (.int p1), .val (.int p2), .val (.int p3), .val (.int p4), .val (.int p5), .val (.int r6), .val (.int (p0 + p2)), .unset, .unset, .unset, .unset, .unset, .unset, .unset]) (st' := []) [oIloadN w.ok (dc.g 16 rfl), oIloadN w.ok (dc.g 17 rfl), oIadd w.ok (dc.g 18 rfl), oIstore w.ok (dc.g 19 rfl)] rfl ?_
      exact k32 _
    · show Go κ _ T 23 #[.val (.int p0), .val (.int p1), .val (.int p2), .val (.int p3), .val (.int p4), .val (.int p5), .val (.int r6), .unset, .unset, .unset, .unset, .unset, .unset, .unset, .unset] []
      refine blk (pc' := 32) (Ls' := #[.val (.int p0), .val (.int p1), .val (.int p2), .val (.int p3), .val (.int p4), .val (.int p5), .val (.int r6), .val (.int p0), .unset, .unset, .unset, .unset, .unset, .unset, .unset]) (st' := []) [oIloadN w.ok (dc.g 14 rfl), oGoto w.ok 30 (dc.g 15 rfl), oIstore w.ok (dc.g 19 rfl)] rfl ?_
      exact k32 _
  intro r7
  suffices k47 : ∀ r8 : Int32, Go κ (GQ κ Z [] room_1 (fun v h' S => v = some (.int 1))) T 47 #[.val (.int p0), .val (.int p1), .val (.int p2), .val (.int p3), .val (.int p4), .val (.int p5), .val (.int r6), .val (.int r7), .val (.int r8), .unset, .unset, .unset, .unset, .unset, .unset] [] by
    refine blk (pc' := 37) (Ls' := #[.val (.int p0), .val (.int p1), .val (.int p2), .val (.int p3), .val (.int p4), .val (.int p5), .val (.int r6), .val (.int r7), .unset, .unset, .unset, .unset, .unset, .unset, .unset]) (st' := [(.int (p5 &&& (8 : Int32)))]) [oIload w.ok (dc.g 20 rfl), oBipush w.ok (dc.g 21 rfl), oIand w.ok (dc.g 22 rfl)] rfl ?_
    refine zEq (pc' := 44) w.ok (dc.g 23 rfl) (by decide) (by decide) (fun hc189 => ?_) (fun hc189 => ?_)
    · show Go κ _ T 44 #[.val (.int p0), .val (.int p1), .val (.int p2), .val (.int p3), .val (.int p4), .val (.int p5), .val (.int r6), .val (.int r7), .unset, .unset, .unset, .unset, .unset, .unset, .unset] []
      refine blk (pc' := 47) (Ls' := #[.val (.int p0), .val (.int p1), .val (.int p2), .val (.int p3), .val (.int p4), .val (.int p5), .val (.int r6), .val (.int r7), .val (.int p3), .unset, .unset, .unset, .unset, .unset, .unset]) (st' := []) [oIloadN w.ok (dc.g 26 rfl), oIstore w.ok (dc.g 27 rfl)] rfl ?_
      exact k47 _
    · show Go κ _ T 40 #[.val (.int p0), .val (.int p1), .val (.int p2), .val (.int p3), .val (.int p4), .val (.int p5), .val (.int r6), .val (.int r7), .unset, .unset, .unset, .unset, .unset, .unset, .unset] []
      refine blk (pc' := 47) (Ls' := #[.val (.int p0), .val (.int p1), .val (.int p2), .val (.int p3), .val (.int p4), .val (.int p5), .val (.int r6), .val (.int r7), .val (.int (0 : Int32)), .unset, .unset, .unset, .unset, .unset, .unset]) (st' := []) [oIconst w.ok (dc.g 24 rfl), oGoto w.ok 45 (dc.g 25 rfl), oIstore w.ok (dc.g 27 rfl)] rfl ?_
      exact k47 _
  intro r8
  suffices k63 : ∀ r9 : Int32, Go κ (GQ κ Z [] room_1 (fun v h' S => v = some (.int 1))) T 63 #[.val (.int p0), .val (.int p1), .val (.int p2), .val (.int p3), .val (.int p4), .val (.int p5), .val (.int r6), .val (.int r7), .val (.int r8), .val (.int r9), .unset, .unset, .unset, .unset, .unset] [] by
    refine blk (pc' := 52) (Ls' := #[.val (.int p0), .val (.int p1), .val (.int p2), .val (.int p3), .val (.int p4), .val (.int p5), .val (.int r6), .val (.int r7), .val (.int r8), .unset, .unset, .unset, .unset, .unset, .unset]) (st' := [(.int (p5 &&& (16 : Int32)))]) [oIload w.ok (dc.g 28 rfl), oBipush w.ok (dc.g 29 rfl), oIand w.ok (dc.g 30 rfl)] rfl ?_
    refine zEq (pc' := 59) w.ok (dc.g 31 rfl) (by decide) (by decide) (fun hc190 => ?_) (fun hc190 => ?_)
    · show Go κ _ T 59 #[.val (.int p0), .val (.int p1), .val (.int p2), .val (.int p3), .val (.int p4), .val (.int p5), .val (.int r6), .val (.int r7), .val (.int r8), .unset, .unset, .unset, .unset, .unset, .unset] []
      refine blk (pc' := 63) (Ls' := #[.val (.int p0), .val (.int p1), .val (.int p2), .val (.int p3), .val (.int p4), .val (.int p5), .val (.int r6), .val (.int r7), .val (.int r8), .val (.int p4), .unset, .unset, .unset, .unset, .unset]) (st' := []) [oIload w.ok (dc.g 34 rfl), oIstore w.ok (dc.g 35 rfl)] rfl ?_
      exact k63 _
    · show Go κ _ T 55 #[.val (.int p0), .val (.int p1), .val (.int p2), .val (.int p3), .val (.int p4), .val (.int p5), .val (.int r6), .val (.int r7), .val (.int r8), .unset, .unset, .unset, .unset, .unset, .unset] []
      refine blk (pc' := 63) (Ls' := #[.val (.int p0), .val (.int p1), .val (.int p2), .val (.int p3), .val (.int p4), .val (.int p5), .val (.int r6), .val (.int r7), .val (.int r8), .val (.int (0 : Int32)), .unset, .unset, .unset, .unset, .unset]) (st' := []) [oIconst w.ok (dc.g 32 rfl), oGoto w.ok 61 (dc.g 33 rfl), oIstore w.ok (dc.g 35 rfl)] rfl ?_
      exact k63 _
  intro r9
  suffices k106 : ∀ (vm1 : Vm) (T1 : State) (h1 : Heap) (u : Value), W κ l room_1 Z [] "com/example/heronbus/heronbus/stomp/OutcomeCleanPinLaw" "law" maxLocals ret vm1 T1 h1 2 5 → Z.heap.size ≤ h1.size → (u = .null ∨ ∃ b, u = .ref b) → Go κ (GQ κ Z [] room_1 (fun v h' S => v = some (.int 1))) T1 106 #[.val (.int p0), .val (.int p1), .val (.int p2), .val (.int p3), .val (.int p4), .val (.int p5), .val (.int r6), .val (.int r7), .val (.int r8), .val (.int r9), .val u, .unset, .unset, .unset, .unset] [] by
    refine blk (pc' := 67) (Ls' := #[.val (.int p0), .val (.int p1), .val (.int p2), .val (.int p3), .val (.int p4), .val (.int p5), .val (.int r6), .val (.int r7), .val (.int r8), .val (.int r9), .unset, .unset, .unset, .unset, .unset]) (st' := [(.int (p5 &&& (1 : Int32)))]) [oIload w.ok (dc.g 36 rfl), oIconst w.ok (dc.g 37 rfl), oIand w.ok (dc.g 38 rfl)] rfl ?_
    refine zEq (pc' := 76) w.ok (dc.g 39 rfl) (by decide) (by decide) (fun hc191 => ?_) (fun hc191 => ?_)
    · show Go κ _ T 76 #[.val (.int p0), .val (.int p1), .val (.int p2), .val (.int p3), .val (.int p4), .val (.int p5), .val (.int r6), .val (.int r7), .val (.int r8), .val (.int r9), .unset, .unset, .unset, .unset, .unset] []
      refine blk (pc' := 81) (Ls' := #[.val (.int p0), .val (.int p1), .val (.int p2), .val (.int p3), .val (.int p4), .val (.int p5), .val (.int r6), .val (.int r7), .val (.int r8), .val (.int r9), .unset, .unset, .unset, .unset, .unset]) (st' := [(.int (p5 &&& (32 : Int32)))]) [oIload w.ok (dc.g 43 rfl), oBipush w.ok (dc.g 44 rfl), oIand w.ok (dc.g 45 rfl)] rfl ?_
      refine zEq (pc' := 91) w.ok (dc.g 46 rfl) (by decide) (by decide) (fun hc192 => ?_) (fun hc192 => ?_)
      · show Go κ _ T 91 #[.val (.int p0), .val (.int p1), .val (.int p2), .val (.int p3), .val (.int p4), .val (.int p5), .val (.int r6), .val (.int r7), .val (.int r8), .val (.int r9), .unset, .unset, .unset, .unset, .unset] []
        refine blk (pc' := 101) (Ls' := #[.val (.int p0), .val (.int p1), .val (.int p2), .val (.int p3), .val (.int p4), .val (.int p5), .val (.int r6), .val (.int r7), .val (.int r8), .val (.int r9), .unset, .unset, .unset, .unset, .unset]) (st' := [(.int (((((p5).toUInt32 >>> ((8 : Int32) &&& 31).toUInt32).toInt32 &&& (255 : Int32))).toUInt32.toUInt16.toUInt32.toInt32))]) [oIload w.ok (dc.g 50 rfl), oBipush w.ok (dc.g 51 rfl), oIushr w.ok (dc.g 52 rfl), oSipush w.ok (dc.g 53 rfl), oIand w.ok (dc.g 54 rfl), oI2c w.ok (dc.g 55 rfl)] rfl ?_
        have hc9 : ¬ (255 : Int32) < (((((p5).toUInt32 >>> ((8 : Int32) &&& 31).toUInt32).toInt32 &&& (255 : Int32))).toUInt32.toUInt16.toUInt32.toInt32) := own_c255 _
        refine w.callS (wd hw 33 rfl) (wd hw 34 rfl) (wd hw 35 rfl) (wd hw 36 rfl) (by decide) (argsL := [(.int (((((p5).toUInt32 >>> ((8 : Int32) &&& 31).toUInt32).toInt32 &&& (255 : Int32))).toUInt32.toUInt16.toUInt32.toInt32))]) (Wd := 0) (Ctr.pays (len := 3) (Wd := 0) (c_vof l Z a0 hw hEL hc9 (by rw [hh]; exact Nat.le_refl _) (by rw [hh]; exact O) P) w (wd hw 36 rfl) (wd hw 35 rfl) hEL (by decide) (by decide) sfNil) pd4 rfl (st := []) rfl rfl (Nat.le_of_eq rfl) (dc.g 56 rfl) (by decide) (by decide) ?_
        intro vm193 T194 h195 v196 w197 C198 Q199
        obtain ⟨K2, y, rfl⟩ := Q199
        show Go κ _ T194 104 #[.val (.int p0), .val (.int p1), .val (.int p2), .val (.int p3), .val (.int p4), .val (.int p5), .val (.int r6), .val (.int r7), .val (.int r8), .val (.int r9), .unset, .unset, .unset, .unset, .unset] [(.ref y)]
        refine blk (pc' := 106) (Ls' := #[.val (.int p0), .val (.int p1), .val (.int p2), .val (.int p3), .val (.int p4), .val (.int p5), .val (.int r6), .val (.int r7), .val (.int r8), .val (.int r9), .val (.ref y), .unset, .unset, .unset, .unset]) (st' := []) [oAstore w197.ok (dc.g 57 rfl)] rfl ?_
        exact k106 _ _ _ _ w197 (by have := K2.1; rw [hh] at this; exact this) (Or.inr ⟨_, rfl⟩)
      · show Go κ _ T 84 #[.val (.int p0), .val (.int p1), .val (.int p2), .val (.int p3), .val (.int p4), .val (.int p5), .val (.int r6), .val (.int r7), .val (.int r8), .val (.int r9), .unset, .unset, .unset, .unset, .unset] []
        refine w.ldcO (wd hw 57 rfl) (fun c hc => own_str hw c hc) hEL (dc.g 47 rfl) (c := 0) (by decide) (by decide) (by decide) (by decide) ?_
        intro vm203 T200 h202 a204 w201 E205 C206
        show Go κ _ T200 86 #[.val (.int p0), .val (.int p1), .val (.int p2), .val (.int p3), .val (.int p4), .val (.int p5), .val (.int r6), .val (.int r7), .val (.int r8), .val (.int r9), .unset, .unset, .unset, .unset, .unset] [(.ref a204)]
        refine blk (pc' := 106) (Ls' := #[.val (.int p0), .val (.int p1), .val (.int p2), .val (.int p3), .val (.int p4), .val (.int p5), .val (.int r6), .val (.int r7), .val (.int r8), .val (.int r9), .val (.ref a204), .unset, .unset, .unset, .unset]) (st' := []) [oAstore w201.ok (dc.g 48 rfl), oGoto w201.ok 106 (dc.g 49 rfl)] rfl ?_
        exact k106 _ _ _ _ (w201.mono (by decide) (by decide)) (by have := E205.1; rw [hh] at this; exact this) (Or.inr ⟨_, rfl⟩)
    · show Go κ _ T 70 #[.val (.int p0), .val (.int p1), .val (.int p2), .val (.int p3), .val (.int p4), .val (.int p5), .val (.int r6), .val (.int r7), .val (.int r8), .val (.int r9), .unset, .unset, .unset, .unset, .unset] []
      refine blk (pc' := 106) (Ls' := #[.val (.int p0), .val (.int p1), .val (.int p2), .val (.int p3), .val (.int p4), .val (.int p5), .val (.int r6), .val (.int r7), .val (.int r8), .val (.int r9), .val .null, .unset, .unset, .unset, .unset]) (st' := []) [oAnull w.ok (dc.g 40 rfl), oAstore w.ok (dc.g 41 rfl), oGoto w.ok 106 (dc.g 42 rfl)] rfl ?_
      exact k106 _ _ _ _ (w.mono (by decide) (by decide)) (by rw [hh]; exact Nat.le_refl _) (Or.inl rfl)
  intro vm1 T1 h1 u w1 hz1 hu
  have hur : u.isRef = true := by rcases hu with rfl | ⟨b, rfl⟩ <;> rfl
  refine blk (pc' := 118) (Ls' := #[.val (.int p0), .val (.int p1), .val (.int p2), .val (.int p3), .val (.int p4), .val (.int p5), .val (.int r6), .val (.int r7), .val (.int r8), .val (.int r9), .val u, .val (.double (FP.i2d (((p5).toUInt32 >>> ((16 : Int32) &&& 31).toUInt32).toInt32 &&& (255 : Int32)))), .second, .unset, .unset]) (st' := []) [oIload w1.ok (dc.g 58 rfl), oBipush w1.ok (dc.g 59 rfl), oIushr w1.ok (dc.g 60 rfl), oSipush w1.ok (dc.g 61 rfl), oIand w1.ok (dc.g 62 rfl), oI2d w1.ok (dc.g 63 rfl), oDstore w1.ok (dc.g 64 rfl)] rfl ?_
  refine w1.new (wd hw 0 rfl) (wd hw 1 rfl) (wd hw 2 rfl) (dc.g 65 rfl) (by decide) (by decide) ?_
  intro T207 h209 x210 w208 g211 E212 X213 D214 S215
  show Go κ _ T207 121 #[.val (.int p0), .val (.int p1), .val (.int p2), .val (.int p3), .val (.int p4), .val (.int p5), .val (.int r6), .val (.int r7), .val (.int r8), .val (.int r9), .val u, .val (.double (FP.i2d (((p5).toUInt32 >>> ((16 : Int32) &&& 31).toUInt32).toInt32 &&& (255 : Int32)))), .second, .unset, .unset] [(.ref x210)]
  refine blk (pc' := 133) (Ls' := #[.val (.int p0), .val (.int p1), .val (.int p2), .val (.int p3), .val (.int p4), .val (.int p5), .val (.int r6), .val (.int r7), .val (.int r8), .val (.int r9), .val u, .val (.double (FP.i2d (((p5).toUInt32 >>> ((16 : Int32) &&& 31).toUInt32).toInt32 &&& (255 : Int32)))), .second, .unset, .unset]) (st' := [(.double (FP.i2d (((p5).toUInt32 >>> ((16 : Int32) &&& 31).toUInt32).toInt32 &&& (255 : Int32)))), (.int r9), (.int r8), (.int r7), (.int r6), (.int p0), (.ref x210), (.ref x210)]) [oDup w208.ok (dc.g 66 rfl), oIloadN w208.ok (dc.g 67 rfl), oIload w208.ok (dc.g 68 rfl), oIload w208.ok (dc.g 69 rfl), oIload w208.ok (dc.g 70 rfl), oIload w208.ok (dc.g 71 rfl), oDload w208.ok (dc.g 72 rfl)] rfl ?_
  refine aloadV w208.ok (dc.g 73 rfl) rfl hur ?_
  show Go κ _ T207 135 #[.val (.int p0), .val (.int p1), .val (.int p2), .val (.int p3), .val (.int p4), .val (.int p5), .val (.int r6), .val (.int r7), .val (.int r8), .val (.int r9), .val u, .val (.double (FP.i2d (((p5).toUInt32 >>> ((16 : Int32) &&& 31).toUInt32).toInt32 &&& (255 : Int32)))), .second, .unset, .unset] [u, (.double (FP.i2d (((p5).toUInt32 >>> ((16 : Int32) &&& 31).toUInt32).toInt32 &&& (255 : Int32)))), (.int r9), (.int r8), (.int r7), (.int r6), (.int p0), (.ref x210), (.ref x210)]
  refine w208.callI rfl (wd hw 3 rfl) (wd hw 4 rfl) (wd hw 5 rfl) (by decide) (a := x210) (argsL := [(.int p0), (.int r6), (.int r7), (.int r8), (.int r9), (.double (FP.i2d (((p5).toUInt32 >>> ((16 : Int32) &&& 31).toUInt32).toInt32 &&& (255 : Int32)))), u]) (Wd := 1) (Ctr.pays (len := 3) (Wd := 1) (c_out l Z a0 hw hEL hu (by rw [g211]; exact hz1) X213 (D214 (Or.inr (wd hw 15 rfl)) (ty := .int) (by decide)) (D214 (Or.inr (wd hw 17 rfl)) (ty := .int) (by decide)) (D214 (Or.inr (wd hw 19 rfl)) (ty := .int) (by decide)) (D214 (Or.inr (wd hw 21 rfl)) (ty := .int) (by decide)) (D214 (Or.inr (wd hw 23 rfl)) (ty := .int) (by decide)) (D214 (Or.inr (wd hw 25 rfl)) (ty := .double) (by decide)) (D214 (Or.inr (wd hw 27 rfl)) (ty := (.object "java/lang/String")) (by decide))) w208 (wd hw 5 rfl) (wd hw 2 rfl) hEL (by decide) (by decide) sfNil) pd5 rfl (st := [(.ref x210)]) rfl rfl (Nat.le_of_eq rfl) (dc.g 74 rfl) (by decide) (by decide) ?_
  intro vm216 T217 h218 v219 w220 C221 Q222
  obtain ⟨rfl, K2, X2, G_sent, G_receipted, G_received, G_lost, G_duplicated, G_failure⟩ := Q222
  show Go κ _ T217 138 #[.val (.int p0), .val (.int p1), .val (.int p2), .val (.int p3), .val (.int p4), .val (.int p5), .val (.int r6), .val (.int r7), .val (.int r8), .val (.int r9), .val u, .val (.double (FP.i2d (((p5).toUInt32 >>> ((16 : Int32) &&& 31).toUInt32).toInt32 &&& (255 : Int32)))), .second, .unset, .unset] [(.ref x210)]
  refine blk (pc' := 140) (Ls' := #[.val (.int p0), .val (.int p1), .val (.int p2), .val (.int p3), .val (.int p4), .val (.int p5), .val (.int r6), .val (.int r7), .val (.int r8), .val (.int r9), .val u, .val (.double (FP.i2d (((p5).toUInt32 >>> ((16 : Int32) &&& 31).toUInt32).toInt32 &&& (255 : Int32)))), .second, .val (.ref x210), .unset]) (st' := []) [oAstore w220.ok (dc.g 75 rfl)] rfl ?_
  refine aloadV w220.ok (dc.g 76 rfl) rfl hur ?_
  show Go κ _ T217 142 #[.val (.int p0), .val (.int p1), .val (.int p2), .val (.int p3), .val (.int p4), .val (.int p5), .val (.int r6), .val (.int r7), .val (.int r8), .val (.int r9), .val u, .val (.double (FP.i2d (((p5).toUInt32 >>> ((16 : Int32) &&& 31).toUInt32).toInt32 &&& (255 : Int32)))), .second, .val (.ref x210), .unset] [u]
  suffices k168 : ∀ r14 : Int32, r14 = (if u = .null ∧ r6 = p0 ∧ r7 = p0 ∧ r8 = 0 ∧ r9 = 0 then (1 : Int32) else 0) → Go κ (GQ κ Z [] room_1 (fun v h' S => v = some (.int 1))) T217 168 #[.val (.int p0), .val (.int p1), .val (.int p2), .val (.int p3), .val (.int p4), .val (.int p5), .val (.int r6), .val (.int r7), .val (.int r8), .val (.int r9), .val u, .val (.double (FP.i2d (((p5).toUInt32 >>> ((16 : Int32) &&& 31).toUInt32).toInt32 &&& (255 : Int32)))), .second, .val (.ref x210), .unset] [(.int r14)] by
    rcases hu with rfl | ⟨b, rfl⟩
    · show Go κ _ T217 142 #[.val (.int p0), .val (.int p1), .val (.int p2), .val (.int p3), .val (.int p4), .val (.int p5), .val (.int r6), .val (.int r7), .val (.int r8), .val (.int r9), .val .null, .val (.double (FP.i2d (((p5).toUInt32 >>> ((16 : Int32) &&& 31).toUInt32).toInt32 &&& (255 : Int32)))), .second, .val (.ref x210), .unset] [.null]
      refine nnNull w220.ok (dc.g 77 rfl) ?_
      show Go κ _ T217 145 #[.val (.int p0), .val (.int p1), .val (.int p2), .val (.int p3), .val (.int p4), .val (.int p5), .val (.int r6), .val (.int r7), .val (.int r8), .val (.int r9), .val .null, .val (.double (FP.i2d (((p5).toUInt32 >>> ((16 : Int32) &&& 31).toUInt32).toInt32 &&& (255 : Int32)))), .second, .val (.ref x210), .unset] []
      refine blk (pc' := 160) (Ls' := #[.val (.int p0), .val (.int p1), .val (.int p2), .val (.int p3), .val (.int p4), .val (.int p5), .val (.int r6), .val (.int r7), .val (.int r8), .val (.int r9), .val .null, .val (.double (FP.i2d (((p5).toUInt32 >>> ((16 : Int32) &&& 31).toUInt32).toInt32 &&& (255 : Int32)))), .second, .val (.ref x210), .unset]) (st' := [(.int ((((r6 - p0) ||| (r7 - p0)) ||| r8) ||| r9))]) [oIload w220.ok (dc.g 78 rfl), oIloadN w220.ok (dc.g 79 rfl), oIsub w220.ok (dc.g 80 rfl), oIload w220.ok (dc.g 81 rfl), oIloadN w220.ok (dc.g 82 rfl), oIsub w220.ok (dc.g 83 rfl), oIor w220.ok (dc.g 84 rfl), oIload w220.ok (dc.g 85 rfl), oIor w220.ok (dc.g 86 rfl), oIload w220.ok (dc.g 87 rfl), oIor w220.ok (dc.g 88 rfl)] rfl ?_
      refine zNe (pc' := 167) w220.ok (dc.g 89 rfl) (by decide) (by decide) (fun hc223 => ?_) (fun hc223 => ?_)
      · show Go κ _ T217 167 #[.val (.int p0), .val (.int p1), .val (.int p2), .val (.int p3), .val (.int p4), .val (.int p5), .val (.int r6), .val (.int r7), .val (.int r8), .val (.int r9), .val .null, .val (.double (FP.i2d (((p5).toUInt32 >>> ((16 : Int32) &&& 31).toUInt32).toInt32 &&& (255 : Int32)))), .second, .val (.ref x210), .unset] []
        refine blk (pc' := 168) (Ls' := #[.val (.int p0), .val (.int p1), .val (.int p2), .val (.int p3), .val (.int p4), .val (.int p5), .val (.int r6), .val (.int r7), .val (.int r8), .val (.int r9), .val .null, .val (.double (FP.i2d (((p5).toUInt32 >>> ((16 : Int32) &&& 31).toUInt32).toInt32 &&& (255 : Int32)))), .second, .val (.ref x210), .unset]) (st' := [(.int (0 : Int32))]) [oIconst w220.ok (dc.g 92 rfl)] rfl ?_
        exact k168 _ (by rw [if_neg (fun q => hc223 (own_or0.mpr ⟨q.2.1, q.2.2.1, q.2.2.2.1, q.2.2.2.2⟩))])
      · show Go κ _ T217 163 #[.val (.int p0), .val (.int p1), .val (.int p2), .val (.int p3), .val (.int p4), .val (.int p5), .val (.int r6), .val (.int r7), .val (.int r8), .val (.int r9), .val .null, .val (.double (FP.i2d (((p5).toUInt32 >>> ((16 : Int32) &&& 31).toUInt32).toInt32 &&& (255 : Int32)))), .second, .val (.ref x210), .unset] []
        refine blk (pc' := 168) (Ls' := #[.val (.int p0), .val (.int p1), .val (.int p2), .val (.int p3), .val (.int p4), .val (.int p5), .val (.int r6), .val (.int r7), .val (.int r8), .val (.int r9), .val .null, .val (.double (FP.i2d (((p5).toUInt32 >>> ((16 : Int32) &&& 31).toUInt32).toInt32 &&& (255 : Int32)))), .second, .val (.ref x210), .unset]) (st' := [(.int (1 : Int32))]) [oIconst w220.ok (dc.g 90 rfl), oGoto w220.ok 168 (dc.g 91 rfl)] rfl ?_
        exact k168 _ (by rw [if_pos ⟨rfl, own_or0.mp hc223⟩])
    · show Go κ _ T217 142 #[.val (.int p0), .val (.int p1), .val (.int p2), .val (.int p3), .val (.int p4), .val (.int p5), .val (.int r6), .val (.int r7), .val (.int r8), .val (.int r9), .val (.ref b), .val (.double (FP.i2d (((p5).toUInt32 >>> ((16 : Int32) &&& 31).toUInt32).toInt32 &&& (255 : Int32)))), .second, .val (.ref x210), .unset] [(.ref b)]
      refine nnRef (pc' := 167) w220.ok (dc.g 77 rfl) (by decide) (by decide) ?_
      show Go κ _ T217 167 #[.val (.int p0), .val (.int p1), .val (.int p2), .val (.int p3), .val (.int p4), .val (.int p5), .val (.int r6), .val (.int r7), .val (.int r8), .val (.int r9), .val (.ref b), .val (.double (FP.i2d (((p5).toUInt32 >>> ((16 : Int32) &&& 31).toUInt32).toInt32 &&& (255 : Int32)))), .second, .val (.ref x210), .unset] []
      refine blk (pc' := 168) (Ls' := #[.val (.int p0), .val (.int p1), .val (.int p2), .val (.int p3), .val (.int p4), .val (.int p5), .val (.int r6), .val (.int r7), .val (.int r8), .val (.int r9), .val (.ref b), .val (.double (FP.i2d (((p5).toUInt32 >>> ((16 : Int32) &&& 31).toUInt32).toInt32 &&& (255 : Int32)))), .second, .val (.ref x210), .unset]) (st' := [(.int (0 : Int32))]) [oIconst w220.ok (dc.g 92 rfl)] rfl ?_
      exact k168 _ (by rw [if_neg (fun q => nomatch q.1)])
  intro r14 hr14
  show Go κ _ T217 168 #[.val (.int p0), .val (.int p1), .val (.int p2), .val (.int p3), .val (.int p4), .val (.int p5), .val (.int r6), .val (.int r7), .val (.int r8), .val (.int r9), .val u, .val (.double (FP.i2d (((p5).toUInt32 >>> ((16 : Int32) &&& 31).toUInt32).toInt32 &&& (255 : Int32)))), .second, .val (.ref x210), .unset] [(.int r14)]
  refine blk (pc' := 172) (Ls' := #[.val (.int p0), .val (.int p1), .val (.int p2), .val (.int p3), .val (.int p4), .val (.int p5), .val (.int r6), .val (.int r7), .val (.int r8), .val (.int r9), .val u, .val (.double (FP.i2d (((p5).toUInt32 >>> ((16 : Int32) &&& 31).toUInt32).toInt32 &&& (255 : Int32)))), .second, .val (.ref x210), .val (.int r14)]) (st' := [(.ref x210)]) [oIstore w220.ok (dc.g 93 rfl), oAload w220.ok (dc.g 94 rfl)] rfl ?_
  refine w220.callV (wd hw 28 rfl) (wd hw 29 rfl) (notFace (wd hw 31 rfl)) (wd hw 31 rfl) (wd hw 30 rfl) (by decide) (a := x210) X2 (argsL := []) (Wd := 0) (Ctr.pays (len := 3) (Wd := 0) (c_clean l Z a0 hw hEL hu G_sent G_receipted G_received G_lost G_duplicated G_failure) w220 (wd hw 32 rfl) (wd hw 2 rfl) hEL (by decide) (by decide) sfNil) pd6 rfl (st := []) rfl rfl (Nat.le_of_eq rfl) (dc.g 95 rfl) (by decide) (by decide) ?_
  intro vm224 T225 h226 v227 w228 C229 Q230
  obtain ⟨rfl, rfl⟩ := Q230
  show Go κ _ T225 175 #[.val (.int p0), .val (.int p1), .val (.int p2), .val (.int p3), .val (.int p4), .val (.int p5), .val (.int r6), .val (.int r7), .val (.int r8), .val (.int r9), .val u, .val (.double (FP.i2d (((p5).toUInt32 >>> ((16 : Int32) &&& 31).toUInt32).toInt32 &&& (255 : Int32)))), .second, .val (.ref x210), .val (.int r14)] [(.int (if u = .null ∧ r6 = p0 ∧ r7 = p0 ∧ r8 = 0 ∧ r9 = 0 then (1 : Int32) else 0))]
  refine blk (pc' := 177) (Ls' := #[.val (.int p0), .val (.int p1), .val (.int p2), .val (.int p3), .val (.int p4), .val (.int p5), .val (.int r6), .val (.int r7), .val (.int r8), .val (.int r9), .val u, .val (.double (FP.i2d (((p5).toUInt32 >>> ((16 : Int32) &&& 31).toUInt32).toInt32 &&& (255 : Int32)))), .second, .val (.ref x210), .val (.int r14)]) (st' := [(.int r14), (.int (if u = .null ∧ r6 = p0 ∧ r7 = p0 ∧ r8 = 0 ∧ r9 = 0 then (1 : Int32) else 0))]) [oIload w228.ok (dc.g 96 rfl)] rfl ?_
  refine cNe (pc' := 184) w228.ok (dc.g 97 rfl) (by decide) (by decide) (fun hc231 => absurd hr14.symm hc231) (fun hc231 => ?_)
  show Go κ _ T225 180 #[.val (.int p0), .val (.int p1), .val (.int p2), .val (.int p3), .val (.int p4), .val (.int p5), .val (.int r6), .val (.int r7), .val (.int r8), .val (.int r9), .val u, .val (.double (FP.i2d (((p5).toUInt32 >>> ((16 : Int32) &&& 31).toUInt32).toInt32 &&& (255 : Int32)))), .second, .val (.ref x210), .val (.int r14)] []
  refine blk (pc' := 185) (Ls' := #[.val (.int p0), .val (.int p1), .val (.int p2), .val (.int p3), .val (.int p4), .val (.int p5), .val (.int r6), .val (.int r7), .val (.int r8), .val (.int r9), .val u, .val (.double (FP.i2d (((p5).toUInt32 >>> ((16 : Int32) &&& 31).toUInt32).toInt32 &&& (255 : Int32)))), .second, .val (.ref x210), .val (.int r14)]) (st' := [(.int (1 : Int32))]) [oIconst w228.ok (dc.g 98 rfl), oGoto w228.ok 185 (dc.g 99 rfl)] rfl ?_
  exact w228.retI (t := .boolean) rfl (Or.inr (Or.inl rfl)) rfl (dc.g 101 rfl) (by decide) (by decide) (fun S hS => rfl)
set_option maxRecDepth 65536 in
set_option maxHeartbeats 4000000 in
theorem comes_1 {Post : Tables → Env → Array Value → State → Outcome → State → Prop} (hpost : ∀ tb e args s v u, (limb_1_1.after args s (.returned v) u = true ∧ limb_1_2.after args s (.returned v) u = true ∧ True) → ReturnedEndW s (.returned v) u (Jvm.fieldLocs frame_1_writes args s ++ Jvm.arrayLocs frame_1_arrays args s ++ Jvm.staticLocs frame_1_statics s) 16 1152 → Post tb e args s (.returned v) u) :
    ArmFor flags0 classFile x code maxLocals ret World_1 tables_1 room_1 Calls_1 rest_1 Pre_1 Post := by
  intro l hfl _ _ p e ha hc hk s m args below hf hA hF happ hP
  obtain ⟨hcalls, hrest, hpre⟩ := hP
  obtain ⟨-, -, -, hnamed, -, -, -, hat⟩ := (Spec.applies_iff hf).mp happ
  obtain ⟨hg, hn⟩ := and_e (Cond.before_iff.mp (show (Jvm.Cond.and given_1 narrow_1).before args s = true from hpre))
  obtain ⟨h1, h2⟩ := and_e hg
  obtain ⟨g0, h3⟩ := and_e h2
  obtain ⟨g1, h4⟩ := and_e h3
  obtain ⟨g2, h5⟩ := and_e h4
  obtain ⟨g3, h6⟩ := and_e h5
  obtain ⟨g4, g5⟩ := and_e h6
  obtain ⟨w0, w1, w2, w3, w4, w5, rfl⟩ : ∃ w0 w1 w2 w3 w4 w5 : Value, args = #[w0, w1, w2, w3, w4, w5] := by
    have hs : args.size = 6 := by simpa [Cond.value, given_1] using h1
    obtain ⟨L⟩ := args
    match L, hs with
    | [w0, w1, w2, w3, w4, w5], _ => exact ⟨w0, w1, w2, w3, w4, w5, rfl⟩
  have hw := fun d (hd : d ∈ tables_1) => atoms_spec (ws := Jvm.Cond.code x code maxLocals ret :: tables_1) hat d (List.mem_cons_of_mem _ hd)
  obtain ⟨hsets, hown0⟩ := atoms_of _ (rest_1_c_eq ▸ (show rest_1_c.before _ s = true from hrest))
  have n5 := not_v (Cond.before_iff.mp (hsets _ (List.mem_of_getElem? (i := 2) rfl)))
  obtain ⟨i0, e0⟩ := is_v g0
  obtain rfl : w0 = (.int i0) := Option.some.inj e0
  obtain ⟨i1, e1⟩ := is_v g1
  obtain rfl : w1 = (.int i1) := Option.some.inj e1
  obtain ⟨i2, e2⟩ := is_v g2
  obtain rfl : w2 = (.int i2) := Option.some.inj e2
  obtain ⟨i3, e3⟩ := is_v g3
  obtain rfl : w3 = (.int i3) := Option.some.inj e3
  obtain ⟨i4, e4⟩ := is_v g4
  obtain rfl : w4 = (.int i4) := Option.some.inj e4
  obtain ⟨i5, e5⟩ := is_v g5
  obtain rfl : w5 = (.int i5) := Option.some.inj e5
  obtain ⟨i11, e10⟩ := is_v (Cond.before_iff.mp (hsets _ (List.mem_of_getElem? (i := 1) rfl)))
  have S12 : Sta s s.heap "java/lang/String" "COMPACT_STRINGS" "Z" (.int i11) := Sta.start e10 (Or.inl (hsets _ (List.mem_of_getElem? (i := 0) rfl)))
  have c17 : ¬ (i11 = (0 : Int32)) := gotF (Cond.eq_ints e10 (Term.int_eval (0))) n5
  obtain ⟨n, o, h1, h2, h3, _, L, rfl, ⟨rfl, N⟩, -, hq⟩ := c_law l s _ hw EW.nil s.heap rfl S12 c17 tables_1 p e ha hc hk s m _ below hf ((Spec.applies_iff_loose hf).mp happ).1 ⟨rfl, State.Warmed39.refl s, rfl, (fun _ h => nomatch h), fun _ h => nomatch h⟩ trivial
  refine ⟨n, _, h1, h2, h3, hpost _ _ _ _ _ _ ⟨Cond.after_iff.mpr rfl, Cond.after_iff.mpr (eq_i res_at (Term.int_eval (1)) rfl), trivial⟩ ⟨hq.1, hq.2.1, hq.2.2.1, (hq.2.2.2.sift fun y hy => Or.inr (N y hy)).mono (by decide) (by decide)⟩⟩
theorem main_1_1 : Claimed_1_1 := comes_1 fun _ _ _ _ _ _ h hF => ⟨h.1, hF⟩
theorem main_1_2 : Claimed_1_2 := comes_1 fun _ _ _ _ _ _ h hF => ⟨h.2.1, hF⟩
end Jvm.Pilot.@@N@@
namespace Jvm.Pilot.@@N@@
open Jvm Jvm.ClassFile Sem Op Lib Jvm.Free Jvm.Stand Jvm.Pilot.@@N@@.Jvm.D
/-! MADE BY PROGRAM (witnessworld.py) out of the Statement's table words and the real class files: 16 classes; the members and pool entries that the words name. The judged class is class 1, her method 1. -/
namespace start1
open Jvm.ClassFile
def u (s : String) : CpInfo := .utf8 (stringToUtf16 s)
/-- a pool by its gaps: so many unusable entries, then the entry; so many at the end -/
def gap : Nat → List CpInfo → List CpInfo
  | 0, r => r
  | n + 1, r => .unusable :: gap n r
def poolList (es : List (Nat × CpInfo)) (last : Nat) : List CpInfo := es.foldr (fun e r => gap e.1 (e.2 :: r)) (gap last [])
def pool (es : List (Nat × CpInfo)) (last : Nat) : Array CpInfo := ⟨poolList es last⟩
def fileOf (pool : Array CpInfo) (this : Nat) (attrs : Array Attribute := #[]) (ms : Array MethodInfo := #[]) (fl : Nat := 33) (sup : Nat := 0) (ifs : Array Nat := #[]) (fds : Array FieldInfo := #[]) : ClassFile where
  minorVersion := 0
  majorVersion := 65
  constantPool := pool
  accessFlags := fl
  thisClass := this
  superClass := sup
  interfaces := ifs
  fields := fds
  methods := ms
  attributes := attrs
def plain (name : String) (sup : Option ClassId) : Class where
  name := name
  kind := .ordinary
  loader := none
  accessFlags := 33
  super := sup
  interfaces := #[]
  cf := none
  fields := #[]
  methods := #[]
  instanceTypes := #[]
  staticTypes := #[]
  resolved := #[]
  callSites := []
  init := .initialized
  statics := none
  mirror := none

def pool0 : Array CpInfo := pool [(5, u "<init>"), (0, u "()V"), (1, .class_ 10), (1, u "java/lang/Object")] 113

def k0c0 : Code := { maxStack := 0, maxLocals := 1, code := object_method_1_code, exceptionTable := #[], attributes := #[] }
def k0m0 : Method := { name := "<init>", desc := "()V", sig := { parameters := [], returnType := none }, accessFlags := 1, code := some k0c0 }
/-- java/lang/Object -/
def k0 : Class := { plain "java/lang/Object" none with
  accessFlags := 33
  interfaces := #[]
  cf := some (fileOf pool0 8 #[] #[{ accessFlags := 1, nameIndex := 5, descriptorIndex := 6, attributes := #[] }] 33 0 #[] #[])
  fields := #[]
  methods := #[k0m0]
  instanceTypes := #[]
  staticTypes := #[]
  resolved := Array.replicate 124 none
  statics := none }

def pool1 : Array CpInfo := pool [(2, .class_ 4), (1, u "java/lang/Object"), (0, u "<init>"), (0, u "()V"), (0, .string 8), (0, u ""), (0, .methodref 10 11), (0, .class_ 12), (0, .nameAndType 13 14), (0, u "java/lang/String"), (0, u "valueOf"), (0, u "(C)Ljava/lang/String;"), (0, .class_ 16), (0, u "com/example/heronbus/heronbus/stomp/Load$Outcome"), (0, .methodref 15 18), (0, .nameAndType 5 19), (0, u "(IIIIIDLjava/lang/String;)V"), (0, .methodref 15 21), (0, .nameAndType 22 23), (0, u "clean"), (0, u "()Z"), (0, .class_ 25), (0, u "com/example/heronbus/heronbus/stomp/OutcomeCleanPinLaw"), (2, u "law"), (0, u "(IIIIII)Z")] 7

def k1m0 : Method := { name := "<init>", desc := "()V", sig := { parameters := [], returnType := none }, accessFlags := 1, code := none }
def k1c1 : Code := { maxStack := 10, maxLocals := 15, code := code, exceptionTable := #[], attributes := #[] }
def k1m1 : Method := { name := "law", desc := "(IIIIII)Z", sig := { parameters := [.int, .int, .int, .int, .int, .int], returnType := some .boolean }, accessFlags := 9, code := some k1c1 }
/-- com/example/heronbus/heronbus/stomp/OutcomeCleanPinLaw -/
def k1 : Class := { plain "com/example/heronbus/heronbus/stomp/OutcomeCleanPinLaw" (some 0) with
  accessFlags := 49
  interfaces := #[]
  cf := some (fileOf pool1 24 #[] #[{ accessFlags := 1, nameIndex := 5, descriptorIndex := 6, attributes := #[] }, { accessFlags := 9, nameIndex := 28, descriptorIndex := 29, attributes := #[] }] 49 2 #[] #[])
  fields := #[]
  methods := #[k1m0, k1m1]
  instanceTypes := #[]
  staticTypes := #[]
  resolved := Array.replicate 37 none
  statics := none }

def pool2 : Array CpInfo := pool [(1, .methodref 2 3), (0, .class_ 4), (0, .nameAndType 5 6), (0, u "java/lang/Object"), (0, u "<init>"), (0, u "()V"), (0, .class_ 8), (0, u "java/lang/Record")] 13

def k2c0 : Code := { maxStack := 1, maxLocals := 1, code := jdk_30_method_1_code, exceptionTable := #[], attributes := #[] }
def k2m0 : Method := { name := "<init>", desc := "()V", sig := { parameters := [], returnType := none }, accessFlags := 4, code := some k2c0 }
/-- java/lang/Record -/
def k2 : Class := { plain "java/lang/Record" (some 0) with
  accessFlags := 1057
  interfaces := #[]
  cf := some (fileOf pool2 7 #[] #[{ accessFlags := 4, nameIndex := 5, descriptorIndex := 6, attributes := #[] }] 1057 2 #[] #[])
  fields := #[]
  methods := #[k2m0]
  instanceTypes := #[]
  staticTypes := #[]
  resolved := Array.replicate 22 none
  statics := none }

def pool3 : Array CpInfo := pool [(1, .methodref 2 3), (0, .class_ 4), (0, .nameAndType 5 6), (0, u "java/lang/Record"), (0, u "<init>"), (0, u "()V"), (0, .fieldref 8 9), (0, .class_ 10), (0, .nameAndType 11 12), (0, u "com/example/heronbus/heronbus/stomp/Load$Outcome"), (0, u "sent"), (0, u "I"), (0, .fieldref 8 14), (0, .nameAndType 15 12), (0, u "receipted"), (0, .fieldref 8 17), (0, .nameAndType 18 12), (0, u "received"), (0, .fieldref 8 20), (0, .nameAndType 21 12), (0, u "lost"), (0, .fieldref 8 23), (0, .nameAndType 24 12), (0, u "duplicated"), (0, .fieldref 8 26), (0, .nameAndType 27 28), (0, u "rate"), (0, u "D"), (0, .fieldref 8 30), (0, .nameAndType 31 32), (0, u "failure"), (0, u "Ljava/lang/String;"), (39, u "(IIIIIDLjava/lang/String;)V"), (3, u "clean"), (0, u "()Z"), (9, .class_ 88), (0, u "com/example/heronbus/heronbus/stomp/Load")] 25

def k3c0 : Code := { maxStack := 3, maxLocals := 9, code := prog_119_method_1_code, exceptionTable := #[], attributes := #[] }
def k3m0 : Method := { name := "<init>", desc := "(IIIIIDLjava/lang/String;)V", sig := { parameters := [.int, .int, .int, .int, .int, .double, (.object "java/lang/String")], returnType := none }, accessFlags := 1, code := some k3c0 }
def k3c1 : Code := { maxStack := 2, maxLocals := 1, code := prog_119_method_2_code, exceptionTable := #[], attributes := #[] }
def k3m1 : Method := { name := "clean", desc := "()Z", sig := { parameters := [], returnType := some .boolean }, accessFlags := 1, code := some k3c1 }
/-- com/example/heronbus/heronbus/stomp/Load$Outcome -/
def k3 : Class := { plain "com/example/heronbus/heronbus/stomp/Load$Outcome" (some 2) with
  accessFlags := 49
  interfaces := #[]
  cf := some (fileOf pool3 8 #[.nestHost 87] #[{ accessFlags := 1, nameIndex := 5, descriptorIndex := 72, attributes := #[] }, { accessFlags := 1, nameIndex := 76, descriptorIndex := 77, attributes := #[] }] 49 2 #[] #[{ accessFlags := 18, nameIndex := 11, descriptorIndex := 12, attributes := #[] }, { accessFlags := 18, nameIndex := 15, descriptorIndex := 12, attributes := #[] }, { accessFlags := 18, nameIndex := 18, descriptorIndex := 12, attributes := #[] }, { accessFlags := 18, nameIndex := 21, descriptorIndex := 12, attributes := #[] }, { accessFlags := 18, nameIndex := 24, descriptorIndex := 12, attributes := #[] }, { accessFlags := 18, nameIndex := 27, descriptorIndex := 28, attributes := #[] }, { accessFlags := 18, nameIndex := 31, descriptorIndex := 32, attributes := #[] }])
  fields := #[{ name := "sent", type := .int, accessFlags := 18, slot := 0, constantValue := 0 }, { name := "receipted", type := .int, accessFlags := 18, slot := 1, constantValue := 0 }, { name := "received", type := .int, accessFlags := 18, slot := 2, constantValue := 0 }, { name := "lost", type := .int, accessFlags := 18, slot := 3, constantValue := 0 }, { name := "duplicated", type := .int, accessFlags := 18, slot := 4, constantValue := 0 }, { name := "rate", type := .double, accessFlags := 18, slot := 5, constantValue := 0 }, { name := "failure", type := (.object "java/lang/String"), accessFlags := 18, slot := 6, constantValue := 0 }]
  methods := #[k3m0, k3m1]
  instanceTypes := #[.int, .int, .int, .int, .int, .double, (.object "java/lang/String")]
  staticTypes := #[]
  resolved := Array.replicate 114 none
  statics := none }

def pool4 : Array CpInfo := pool [(1, .class_ 2), (0, u "java/io/Serializable"), (0, .class_ 4), (0, u "java/lang/Object")] 2

/-- java/io/Serializable -/
def k4 : Class := { plain "java/io/Serializable" (some 0) with
  accessFlags := 1537
  interfaces := #[]
  cf := some (fileOf pool4 1 #[] #[] 1537 3 #[] #[])
  fields := #[]
  methods := #[]
  instanceTypes := #[]
  staticTypes := #[]
  resolved := Array.replicate 7 none
  statics := none }

def pool5 : Array CpInfo := pool [(1, .class_ 2), (0, u "java/lang/Comparable"), (0, .class_ 4), (0, u "java/lang/Object")] 7

/-- java/lang/Comparable -/
def k5 : Class := { plain "java/lang/Comparable" (some 0) with
  accessFlags := 1537
  interfaces := #[]
  cf := some (fileOf pool5 1 #[] #[] 1537 3 #[] #[])
  fields := #[]
  methods := #[]
  instanceTypes := #[]
  staticTypes := #[]
  resolved := Array.replicate 12 none
  statics := none }

def pool6 : Array CpInfo := pool [(2, .class_ 4), (1, u "java/lang/CharSequence"), (42, .class_ 48), (0, u "java/lang/CharSequence$1CodePointIterator"), (10, .class_ 60), (0, u "java/lang/CharSequence$1CharIterator"), (5, .class_ 67), (0, u "java/lang/Object")] 63

/-- java/lang/CharSequence -/
def k6 : Class := { plain "java/lang/CharSequence" (some 0) with
  accessFlags := 1537
  interfaces := #[]
  cf := some (fileOf pool6 2 #[.nestMembers #[47, 59]] #[] 1537 66 #[] #[])
  fields := #[]
  methods := #[]
  instanceTypes := #[]
  staticTypes := #[]
  resolved := Array.replicate 131 none
  statics := none }

def pool7 : Array CpInfo := pool [(1, .class_ 2), (0, u "java/lang/constant/Constable"), (0, .class_ 4), (0, u "java/lang/Object")] 6

/-- java/lang/constant/Constable -/
def k7 : Class := { plain "java/lang/constant/Constable" (some 0) with
  accessFlags := 1537
  interfaces := #[]
  cf := some (fileOf pool7 1 #[] #[] 1537 3 #[] #[])
  fields := #[]
  methods := #[]
  instanceTypes := #[]
  staticTypes := #[]
  resolved := Array.replicate 11 none
  statics := none }

def pool8 : Array CpInfo := pool [(1, .class_ 2), (0, u "java/lang/constant/ConstantDesc"), (0, .class_ 4), (0, u "java/lang/Object")] 32

/-- java/lang/constant/ConstantDesc -/
def k8 : Class := { plain "java/lang/constant/ConstantDesc" (some 0) with
  accessFlags := 1537
  interfaces := #[]
  cf := some (fileOf pool8 1 #[] #[] 1537 3 #[] #[])
  fields := #[]
  methods := #[]
  instanceTypes := #[]
  staticTypes := #[]
  resolved := Array.replicate 37 none
  statics := none }

def pool9 : Array CpInfo := pool [(1, .methodref 2 3), (0, .class_ 4), (0, .nameAndType 5 6), (0, u "java/lang/Object"), (0, u "<init>"), (0, u "()V"), (2, .fieldref 10 11), (0, .class_ 12), (0, .nameAndType 13 14), (0, u "java/lang/String"), (0, u "value"), (0, u "[B"), (0, .fieldref 10 16), (0, .nameAndType 17 18), (0, u "coder"), (0, u "B"), (2, u "hash"), (0, u "I"), (2, u "hashIsZero"), (0, u "Z"), (11, .fieldref 10 39), (0, .nameAndType 40 26), (0, u "COMPACT_STRINGS"), (12, u "toBytes"), (53, .class_ 109), (1, u "java/lang/StringLatin1"), (99, .methodref 10 210), (0, .nameAndType 5 211), (0, u "([BB)V"), (157, u "(C)Z"), (205, .class_ 576), (0, u "java/lang/CharSequence"), (22, u "CASE_INSENSITIVE_ORDER"), (0, u "Ljava/util/Comparator;"), (181, u "valueOf"), (0, u "(C)Ljava/lang/String;"), (231, .methodref 107 1016), (0, .nameAndType 1017 369), (0, u "canEncode"), (0, .methodref 107 1019), (0, .nameAndType 53 1020), (0, u "(C)[B"), (80, u "serialPersistentFields"), (0, u "[Ljava/io/ObjectStreamField;"), (0, .class_ 1104), (0, u "java/lang/String$CaseInsensitiveComparator"), (1, .class_ 1107), (0, u "java/io/Serializable"), (0, .class_ 1109), (0, u "java/lang/Comparable"), (0, .class_ 1111), (0, u "java/lang/constant/Constable"), (0, .class_ 1113), (0, u "java/lang/constant/ConstantDesc"), (2, u "serialVersionUID"), (0, u "J"), (3, u "REPL"), (0, u "C"), (2, u "LATIN1"), (1, u "UTF16")] 323

def k9m0 : Method := { name := "<init>", desc := "()V", sig := { parameters := [], returnType := none }, accessFlags := 1, code := none }
def k9c1 : Code := { maxStack := 4, maxLocals := 1, code := jdk_42_method_139_code, exceptionTable := #[], attributes := #[] }
def k9m1 : Method := { name := "valueOf", desc := "(C)Ljava/lang/String;", sig := { parameters := [.char], returnType := some (.object "java/lang/String") }, accessFlags := 9, code := some k9c1 }
def k9c2 : Code := { maxStack := 2, maxLocals := 3, code := jdk_42_method_151_code, exceptionTable := #[], attributes := #[] }
def k9m2 : Method := { name := "<init>", desc := "([BB)V", sig := { parameters := [(.array .byte), .byte], returnType := none }, accessFlags := 0, code := some k9c2 }
/-- java/lang/String -/
def k9 : Class := { plain "java/lang/String" (some 0) with
  accessFlags := 49
  interfaces := #[4, 5, 6, 7, 8]
  cf := some (fileOf pool9 10 #[.nestMembers #[1103]] #[{ accessFlags := 1, nameIndex := 5, descriptorIndex := 6, attributes := #[] }, { accessFlags := 9, nameIndex := 782, descriptorIndex := 783, attributes := #[] }, { accessFlags := 0, nameIndex := 5, descriptorIndex := 211, attributes := #[] }] 49 2 #[1106, 1108, 575, 1110, 1112] #[{ accessFlags := 18, nameIndex := 13, descriptorIndex := 14, attributes := #[] }, { accessFlags := 18, nameIndex := 17, descriptorIndex := 18, attributes := #[] }, { accessFlags := 2, nameIndex := 21, descriptorIndex := 22, attributes := #[] }, { accessFlags := 2, nameIndex := 25, descriptorIndex := 26, attributes := #[] }, { accessFlags := 26, nameIndex := 1116, descriptorIndex := 1117, attributes := #[] }, { accessFlags := 24, nameIndex := 40, descriptorIndex := 26, attributes := #[] }, { accessFlags := 26, nameIndex := 1101, descriptorIndex := 1102, attributes := #[] }, { accessFlags := 26, nameIndex := 1121, descriptorIndex := 1122, attributes := #[] }, { accessFlags := 25, nameIndex := 599, descriptorIndex := 600, attributes := #[] }, { accessFlags := 24, nameIndex := 1125, descriptorIndex := 18, attributes := #[] }, { accessFlags := 24, nameIndex := 1127, descriptorIndex := 18, attributes := #[] }])
  fields := #[{ name := "value", type := (.array .byte), accessFlags := 18, slot := 0, constantValue := 0 }, { name := "coder", type := .byte, accessFlags := 18, slot := 1, constantValue := 0 }, { name := "hash", type := .int, accessFlags := 2, slot := 2, constantValue := 0 }, { name := "hashIsZero", type := .boolean, accessFlags := 2, slot := 3, constantValue := 0 }, { name := "serialVersionUID", type := .long, accessFlags := 26, slot := 0, constantValue := 0 }, { name := "COMPACT_STRINGS", type := .boolean, accessFlags := 24, slot := 1, constantValue := 0 }, { name := "serialPersistentFields", type := (.array (.object "java/io/ObjectStreamField")), accessFlags := 26, slot := 2, constantValue := 0 }, { name := "REPL", type := .char, accessFlags := 26, slot := 3, constantValue := 0 }, { name := "CASE_INSENSITIVE_ORDER", type := (.object "java/util/Comparator"), accessFlags := 25, slot := 4, constantValue := 0 }, { name := "LATIN1", type := .byte, accessFlags := 24, slot := 5, constantValue := 0 }, { name := "UTF16", type := .byte, accessFlags := 24, slot := 6, constantValue := 0 }]
  methods := #[k9m0, k9m1, k9m2]
  instanceTypes := #[(.array .byte), .byte, .int, .boolean]
  staticTypes := #[.long, .boolean, (.array (.object "java/io/ObjectStreamField")), .char, (.object "java/util/Comparator"), .byte, .byte]
  resolved := Array.replicate 1451 none
  statics := some 0 }

def pool10 : Array CpInfo := pool [(4, .class_ 6), (1, u "java/lang/Object"), (0, u "<init>"), (0, u "()V"), (5, .class_ 16), (1, u "java/lang/StringLatin1"), (73, u "canEncode"), (14, u "(C)Z"), (15, u "$assertionsDisabled"), (0, u "Z"), (98, .class_ 223), (1, u "java/lang/StringLatin1$LinesSpliterator"), (156, u "toBytes"), (1, u "(C)[B"), (7, .class_ 391), (0, u "java/lang/StringLatin1$CharsSpliterator")] 3

def k10m0 : Method := { name := "<init>", desc := "()V", sig := { parameters := [], returnType := none }, accessFlags := 0, code := none }
def k10c1 : Code := { maxStack := 2, maxLocals := 1, code := jdk_43_method_3_code, exceptionTable := #[], attributes := #[] }
def k10m1 : Method := { name := "canEncode", desc := "(C)Z", sig := { parameters := [.char], returnType := some .boolean }, accessFlags := 9, code := some k10c1 }
def k10c2 : Code := { maxStack := 4, maxLocals := 1, code := jdk_43_method_46_code, exceptionTable := #[], attributes := #[] }
def k10m2 : Method := { name := "toBytes", desc := "(C)[B", sig := { parameters := [.char], returnType := some (.array .byte) }, accessFlags := 9, code := some k10c2 }
/-- java/lang/StringLatin1 -/
def k10 : Class := { plain "java/lang/StringLatin1" (some 0) with
  accessFlags := 48
  interfaces := #[]
  cf := some (fileOf pool10 14 #[.nestMembers #[390, 221]] #[{ accessFlags := 0, nameIndex := 7, descriptorIndex := 8, attributes := #[] }, { accessFlags := 9, nameIndex := 90, descriptorIndex := 105, attributes := #[] }, { accessFlags := 9, nameIndex := 380, descriptorIndex := 382, attributes := #[] }] 48 4 #[] #[{ accessFlags := 4120, nameIndex := 121, descriptorIndex := 122, attributes := #[] }])
  fields := #[{ name := "$assertionsDisabled", type := .boolean, accessFlags := 4120, slot := 0, constantValue := 0 }]
  methods := #[k10m0, k10m1, k10m2]
  instanceTypes := #[]
  staticTypes := #[.boolean]
  resolved := Array.replicate 395 none
  statics := none }

def pool11 : Array CpInfo := pool [(2, .class_ 4), (1, u "java/lang/Object"), (0, u "<init>"), (0, u "()V"), (17, .class_ 26), (1, u "jdk/internal/util/Preconditions"), (28, .class_ 56), (0, u "jdk/internal/util/Preconditions$4"), (57, .class_ 115), (0, u "jdk/internal/util/Preconditions$1"), (7, u "SIOOBE_FORMATTER"), (0, u "Ljava/util/function/BiFunction;"), (0, .class_ 126), (0, u "jdk/internal/util/Preconditions$2"), (3, u "AIOOBE_FORMATTER"), (0, .class_ 132), (0, u "jdk/internal/util/Preconditions$3"), (3, u "IOOBE_FORMATTER")] 57

def k11m0 : Method := { name := "<init>", desc := "()V", sig := { parameters := [], returnType := none }, accessFlags := 1, code := none }
/-- jdk/internal/util/Preconditions -/
def k11 : Class := { plain "jdk/internal/util/Preconditions" (some 0) with
  accessFlags := 33
  interfaces := #[]
  cf := some (fileOf pool11 24 #[.nestMembers #[55, 131, 125, 114]] #[{ accessFlags := 1, nameIndex := 5, descriptorIndex := 6, attributes := #[] }] 33 2 #[] #[{ accessFlags := 25, nameIndex := 123, descriptorIndex := 124, attributes := #[] }, { accessFlags := 25, nameIndex := 130, descriptorIndex := 124, attributes := #[] }, { accessFlags := 25, nameIndex := 136, descriptorIndex := 124, attributes := #[] }])
  fields := #[{ name := "SIOOBE_FORMATTER", type := (.object "java/util/function/BiFunction"), accessFlags := 25, slot := 0, constantValue := 0 }, { name := "AIOOBE_FORMATTER", type := (.object "java/util/function/BiFunction"), accessFlags := 25, slot := 1, constantValue := 0 }, { name := "IOOBE_FORMATTER", type := (.object "java/util/function/BiFunction"), accessFlags := 25, slot := 2, constantValue := 0 }]
  methods := #[k11m0]
  instanceTypes := #[]
  staticTypes := #[(.object "java/util/function/BiFunction"), (.object "java/util/function/BiFunction"), (.object "java/util/function/BiFunction")]
  resolved := Array.replicate 194 none
  statics := some 1 }

def pool12 : Array CpInfo := pool [(9, u "<init>"), (6, .class_ 18), (1, u "java/lang/Object"), (0, u "()V"), (1, .class_ 23), (1, u "jdk/internal/util/ArraysSupport"), (0, u "LOG2_ARRAY_LONG_INDEX_SCALE"), (0, u "I"), (2, u "U"), (0, u "Ljdk/internal/misc/Unsafe;"), (8, u "BIG_ENDIAN"), (0, u "Z"), (8, u "LOG2_BYTE_BIT_SIZE"), (4, u "LOG2_ARRAY_INT_INDEX_SCALE"), (54, u "JLA"), (0, u "Ljdk/internal/access/JavaLangAccess;"), (11, u "LOG2_ARRAY_BOOLEAN_INDEX_SCALE"), (9, u "LOG2_ARRAY_BYTE_INDEX_SCALE"), (5, u "LOG2_ARRAY_CHAR_INDEX_SCALE"), (5, u "LOG2_ARRAY_SHORT_INDEX_SCALE"), (18, u "LOG2_ARRAY_FLOAT_INDEX_SCALE"), (24, u "LOG2_ARRAY_DOUBLE_INDEX_SCALE"), (89, u "T_BOOLEAN"), (2, u "T_CHAR"), (1, u "T_FLOAT"), (1, u "T_DOUBLE"), (1, u "T_BYTE"), (1, u "T_SHORT"), (1, u "T_INT"), (1, u "T_LONG"), (1, u "SOFT_MAX_ARRAY_LENGTH")] 83

def k12m0 : Method := { name := "<init>", desc := "()V", sig := { parameters := [], returnType := none }, accessFlags := 2, code := none }
/-- jdk/internal/util/ArraysSupport -/
def k12 : Class := { plain "jdk/internal/util/ArraysSupport" (some 0) with
  accessFlags := 33
  interfaces := #[]
  cf := some (fileOf pool12 21 #[] #[{ accessFlags := 2, nameIndex := 9, descriptorIndex := 19, attributes := #[] }] 33 16 #[] #[{ accessFlags := 24, nameIndex := 28, descriptorIndex := 29, attributes := #[] }, { accessFlags := 26, nameIndex := 38, descriptorIndex := 39, attributes := #[] }, { accessFlags := 25, nameIndex := 121, descriptorIndex := 25, attributes := #[] }, { accessFlags := 25, nameIndex := 131, descriptorIndex := 25, attributes := #[] }, { accessFlags := 25, nameIndex := 137, descriptorIndex := 25, attributes := #[] }, { accessFlags := 25, nameIndex := 143, descriptorIndex := 25, attributes := #[] }, { accessFlags := 25, nameIndex := 53, descriptorIndex := 25, attributes := #[] }, { accessFlags := 25, nameIndex := 24, descriptorIndex := 25, attributes := #[] }, { accessFlags := 25, nameIndex := 162, descriptorIndex := 25, attributes := #[] }, { accessFlags := 25, nameIndex := 187, descriptorIndex := 25, attributes := #[] }, { accessFlags := 26, nameIndex := 48, descriptorIndex := 25, attributes := #[] }, { accessFlags := 25, nameIndex := 277, descriptorIndex := 25, attributes := #[] }, { accessFlags := 25, nameIndex := 280, descriptorIndex := 25, attributes := #[] }, { accessFlags := 25, nameIndex := 282, descriptorIndex := 25, attributes := #[] }, { accessFlags := 25, nameIndex := 284, descriptorIndex := 25, attributes := #[] }, { accessFlags := 25, nameIndex := 286, descriptorIndex := 25, attributes := #[] }, { accessFlags := 25, nameIndex := 288, descriptorIndex := 25, attributes := #[] }, { accessFlags := 25, nameIndex := 290, descriptorIndex := 25, attributes := #[] }, { accessFlags := 25, nameIndex := 292, descriptorIndex := 25, attributes := #[] }, { accessFlags := 26, nameIndex := 108, descriptorIndex := 109, attributes := #[] }, { accessFlags := 25, nameIndex := 294, descriptorIndex := 25, attributes := #[] }])
  fields := #[{ name := "U", type := (.object "jdk/internal/misc/Unsafe"), accessFlags := 24, slot := 0, constantValue := 0 }, { name := "BIG_ENDIAN", type := .boolean, accessFlags := 26, slot := 1, constantValue := 0 }, { name := "LOG2_ARRAY_BOOLEAN_INDEX_SCALE", type := .int, accessFlags := 25, slot := 2, constantValue := 0 }, { name := "LOG2_ARRAY_BYTE_INDEX_SCALE", type := .int, accessFlags := 25, slot := 3, constantValue := 0 }, { name := "LOG2_ARRAY_CHAR_INDEX_SCALE", type := .int, accessFlags := 25, slot := 4, constantValue := 0 }, { name := "LOG2_ARRAY_SHORT_INDEX_SCALE", type := .int, accessFlags := 25, slot := 5, constantValue := 0 }, { name := "LOG2_ARRAY_INT_INDEX_SCALE", type := .int, accessFlags := 25, slot := 6, constantValue := 0 }, { name := "LOG2_ARRAY_LONG_INDEX_SCALE", type := .int, accessFlags := 25, slot := 7, constantValue := 0 }, { name := "LOG2_ARRAY_FLOAT_INDEX_SCALE", type := .int, accessFlags := 25, slot := 8, constantValue := 0 }, { name := "LOG2_ARRAY_DOUBLE_INDEX_SCALE", type := .int, accessFlags := 25, slot := 9, constantValue := 0 }, { name := "LOG2_BYTE_BIT_SIZE", type := .int, accessFlags := 26, slot := 10, constantValue := 0 }, { name := "T_BOOLEAN", type := .int, accessFlags := 25, slot := 11, constantValue := 0 }, { name := "T_CHAR", type := .int, accessFlags := 25, slot := 12, constantValue := 0 }, { name := "T_FLOAT", type := .int, accessFlags := 25, slot := 13, constantValue := 0 }, { name := "T_DOUBLE", type := .int, accessFlags := 25, slot := 14, constantValue := 0 }, { name := "T_BYTE", type := .int, accessFlags := 25, slot := 15, constantValue := 0 }, { name := "T_SHORT", type := .int, accessFlags := 25, slot := 16, constantValue := 0 }, { name := "T_INT", type := .int, accessFlags := 25, slot := 17, constantValue := 0 }, { name := "T_LONG", type := .int, accessFlags := 25, slot := 18, constantValue := 0 }, { name := "JLA", type := (.object "jdk/internal/access/JavaLangAccess"), accessFlags := 26, slot := 19, constantValue := 0 }, { name := "SOFT_MAX_ARRAY_LENGTH", type := .int, accessFlags := 25, slot := 20, constantValue := 0 }]
  methods := #[k12m0]
  instanceTypes := #[]
  staticTypes := #[(.object "jdk/internal/misc/Unsafe"), .boolean, .int, .int, .int, .int, .int, .int, .int, .int, .int, .int, .int, .int, .int, .int, .int, .int, .int, (.object "jdk/internal/access/JavaLangAccess"), .int]
  resolved := Array.replicate 378 none
  statics := none }

def pool13 : Array CpInfo := pool [(1, u "java/lang/Cloneable"), (0, .class_ 1), (0, u "java/lang/Object"), (0, .class_ 3)] 3

/-- java/lang/Cloneable -/
def k13 : Class := { plain "java/lang/Cloneable" (some 0) with
  accessFlags := 1537
  interfaces := #[]
  cf := some (fileOf pool13 2 #[] #[] 1537 4 #[] #[])
  fields := #[]
  methods := #[]
  instanceTypes := #[]
  staticTypes := #[]
  resolved := Array.replicate 8 none
  statics := none }

/-- the primitive byte -/
def k14 : Class := { plain "byte" none with kind := .primitive 'B', accessFlags := 0x411 }
/-- [B -/
def k15 : Class := { plain "[B" (some 0) with kind := .array 14 .byte, interfaces := #[13, 4], accessFlags := 1041 }

def heap : Heap := #[{ cls := 9, slots := #[.long 0, .int 1, .null, .int 0, .null, .int 0, .int 0], vm := .statics 9 },
  { cls := 11, slots := #[.null, .null, .null], vm := .statics 11 }]
def classes : Array Class := #[k0, k1, k2, k3, k4, k5, k6, k7, k8, k9, k10, k11, k12, k13, k14, k15]
def interned : List (Array UInt16 × Addr) := []
def slotsUsed : Nat := 10
def theMethod : MethodId := ⟨1, 1⟩
def args0 : Array Value := #[.int 1, .int 2, .int 3, .int 4, .int 5, .int 6]
def aboutOver (below : List Frame) : State where
  vm := { classes := classes, interned := interned.toArray }
  heap := heap
  slotsUsed := slotsUsed
  threads := #[{ frames := .invoking theMethod args0 :: below }]
def below0 : List Frame := [.native { method := ⟨0, 0⟩, args := #[] }]
def about1 : State := aboutOver below0
def p0 : Program := .bare "" "" ""
def e0 : Env := launch0.env 0 0 0
theorem w_frames : about1.frames = Frame.invoking theMethod args0 :: below0 := rfl
set_option maxRecDepth 65536 in
theorem w_args : argsFit about1.vm theMethod args0 = true := by decide +kernel
set_option maxRecDepth 65536 in
theorem w_heap : heapFits about1 = true := by decide +kernel
set_option maxRecDepth 65536 in
theorem w_runnable : about1.curStatus? = some .runnable := by decide +kernel
set_option maxRecDepth 65536 in
theorem w_alone : about1.alone = true := by decide +kernel
set_option maxRecDepth 65536 in
theorem w_named : about1.methodNamed? x = some theMethod := by decide +kernel
set_option maxRecDepth 65536 in
theorem w_hears : about1.hears theMethod below0 = true := by decide +kernel
set_option maxRecDepth 65536 in
theorem w_ripe : about1.ripe theMethod args0 below0 = true := by decide +kernel
theorem w_running : about1.status = .running := rfl
set_option maxRecDepth 65536 in
theorem w_room : about1.hasRoom e0.platform room_1 = true :=
  launch0.hasRoom_least _ room_1 (by decide +kernel) (by decide +kernel) (by decide +kernel) (by decide +kernel) (by decide +kernel) (by decide +kernel)
theorem allAtoms_all (ts : List Jvm.Cond) (a : Array Jvm.Value) (st : Jvm.State) : (allAtoms ts).before a st = ts.all (fun c => c.before a st) := by
  induction ts with
  | nil => rfl
  | cons c t ih =>
    show (Jvm.Cond.and c (allAtoms t)).before a st = _
    rw [Jvm.Cond.before_and, ih, List.all_cons]
def words1 : List Jvm.Cond := Jvm.Cond.code x code maxLocals ret :: tables_1
/-- a 'code' word, met by the world's own term for the bytes: nothing is compared byte by byte -/
theorem code_word {y : MethodName} {bytes : ByteArray} {mx : Nat} {rt : Option FieldType} {a : Array Value} {s : State} {m : MethodId} {meth : Method} {c : Code} (h1 : s.methodNamed? y = some m) (h2 : s.vm.method? m = some meth) (h3 : meth.code = some c) (h4 : c.code = bytes)
    (h5 : (c.maxLocals == mx && c.exceptionTable.isEmpty && decide (c.maxStack ≤ mostOperands) && decide (meth.sig.returnType = rt) && !meth.locks && decide (parseMethodDescriptor y.desc = some meth.sig)) = true) : (Jvm.Cond.code y bytes mx rt).before a s = true := by
  simp only [Bool.and_eq_true, beq_iff_eq, Bool.not_eq_true', decide_eq_true_eq] at h5
  obtain ⟨⟨⟨⟨⟨g1, g2⟩, g3⟩, g4⟩, g5⟩, g6⟩ := h5
  simp [Cond.before, Cond.holds, Cond.value, h1, h2, h3, h4, g1, g2, g3, g4, g5, g6]
def isCode : Jvm.Cond → Bool
  | .code _ _ _ _ => true
  | _ => false
theorem all_split {L : List Jvm.Cond} {P : Jvm.Cond → Bool} (h1 : L.all (fun c => isCode c || P c) = true) (h2 : ∀ c ∈ L.filter isCode, P c = true) : L.all P = true := by
  refine List.all_eq_true.mpr fun c hc => ?_
  have h := List.all_eq_true.mp h1 c hc
  rcases Bool.eq_false_or_eq_true (isCode c) with hi | hi
  · exact h2 c (List.mem_filter.mpr ⟨hc, hi⟩)
  · simpa [hi] using h
set_option maxRecDepth 65536 in
theorem w_c0 : (Jvm.Cond.code x code maxLocals ret).before args0 about1 = true := code_word (m := ⟨1, 1⟩) (meth := k1m1) (c := k1c1) (by decide +kernel) rfl rfl rfl (by decide +kernel)
set_option maxRecDepth 65536 in
theorem w_c1 : (Jvm.Cond.code ({ cls := "com/example/heronbus/heronbus/stomp/Load$Outcome", name := "<init>", desc := "(IIIIIDLjava/lang/String;)V" } : Jvm.MethodName) prog_119_method_1_code (9 : Nat) (Option.none : Option Jvm.ClassFile.FieldType)).before args0 about1 = true := code_word (m := ⟨3, 0⟩) (meth := k3m0) (c := k3c0) (by decide +kernel) rfl rfl rfl (by decide +kernel)
set_option maxRecDepth 65536 in
theorem w_c2 : (Jvm.Cond.code ({ cls := "java/lang/Record", name := "<init>", desc := "()V" } : Jvm.MethodName) jdk_30_method_1_code (1 : Nat) (Option.none : Option Jvm.ClassFile.FieldType)).before args0 about1 = true := code_word (m := ⟨2, 0⟩) (meth := k2m0) (c := k2c0) (by decide +kernel) rfl rfl rfl (by decide +kernel)
set_option maxRecDepth 65536 in
theorem w_c3 : (Jvm.Cond.code ({ cls := "java/lang/Object", name := "<init>", desc := "()V" } : Jvm.MethodName) object_method_1_code (1 : Nat) (Option.none : Option Jvm.ClassFile.FieldType)).before args0 about1 = true := code_word (m := ⟨0, 0⟩) (meth := k0m0) (c := k0c0) (by decide +kernel) rfl rfl rfl (by decide +kernel)
set_option maxRecDepth 65536 in
theorem w_c4 : (Jvm.Cond.code ({ cls := "com/example/heronbus/heronbus/stomp/Load$Outcome", name := "clean", desc := "()Z" } : Jvm.MethodName) prog_119_method_2_code (1 : Nat) (Option.some Jvm.ClassFile.FieldType.boolean)).before args0 about1 = true := code_word (m := ⟨3, 1⟩) (meth := k3m1) (c := k3c1) (by decide +kernel) rfl rfl rfl (by decide +kernel)
set_option maxRecDepth 65536 in
theorem w_c5 : (Jvm.Cond.code ({ cls := "java/lang/String", name := "valueOf", desc := "(C)Ljava/lang/String;" } : Jvm.MethodName) jdk_42_method_139_code (1 : Nat) (Option.some (Jvm.ClassFile.FieldType.object "java/lang/String"))).before args0 about1 = true := code_word (m := ⟨9, 1⟩) (meth := k9m1) (c := k9c1) (by decide +kernel) rfl rfl rfl (by decide +kernel)
set_option maxRecDepth 65536 in
theorem w_c6 : (Jvm.Cond.code ({ cls := "java/lang/StringLatin1", name := "canEncode", desc := "(C)Z" } : Jvm.MethodName) jdk_43_method_3_code (1 : Nat) (Option.some Jvm.ClassFile.FieldType.boolean)).before args0 about1 = true := code_word (m := ⟨10, 1⟩) (meth := k10m1) (c := k10c1) (by decide +kernel) rfl rfl rfl (by decide +kernel)
set_option maxRecDepth 65536 in
theorem w_c7 : (Jvm.Cond.code ({ cls := "java/lang/StringLatin1", name := "toBytes", desc := "(C)[B" } : Jvm.MethodName) jdk_43_method_46_code (1 : Nat) (Option.some (Jvm.ClassFile.FieldType.array Jvm.ClassFile.FieldType.byte))).before args0 about1 = true := code_word (m := ⟨10, 2⟩) (meth := k10m2) (c := k10c2) (by decide +kernel) rfl rfl rfl (by decide +kernel)
set_option maxRecDepth 65536 in
theorem w_c8 : (Jvm.Cond.code ({ cls := "java/lang/String", name := "<init>", desc := "([BB)V" } : Jvm.MethodName) jdk_42_method_151_code (3 : Nat) (Option.none : Option Jvm.ClassFile.FieldType)).before args0 about1 = true := code_word (m := ⟨9, 2⟩) (meth := k9m2) (c := k9c2) (by decide +kernel) rfl rfl rfl (by decide +kernel)
def codes1 : List Jvm.Cond := [Jvm.Cond.code x code maxLocals ret, Jvm.Cond.code ({ cls := "com/example/heronbus/heronbus/stomp/Load$Outcome", name := "<init>", desc := "(IIIIIDLjava/lang/String;)V" } : Jvm.MethodName) prog_119_method_1_code (9 : Nat) (Option.none : Option Jvm.ClassFile.FieldType), Jvm.Cond.code ({ cls := "java/lang/Record", name := "<init>", desc := "()V" } : Jvm.MethodName) jdk_30_method_1_code (1 : Nat) (Option.none : Option Jvm.ClassFile.FieldType), Jvm.Cond.code ({ cls := "java/lang/Object", name := "<init>", desc := "()V" } : Jvm.MethodName) object_method_1_code (1 : Nat) (Option.none : Option Jvm.ClassFile.FieldType), Jvm.Cond.code ({ cls := "com/example/heronbus/heronbus/stomp/Load$Outcome", name := "clean", desc := "()Z" } : Jvm.MethodName) prog_119_method_2_code (1 : Nat) (Option.some Jvm.ClassFile.FieldType.boolean), Jvm.Cond.code ({ cls := "java/lang/String", name := "valueOf", desc := "(C)Ljava/lang/String;" } : Jvm.MethodName) jdk_42_method_139_code (1 : Nat) (Option.some (Jvm.ClassFile.FieldType.object "java/lang/String")), Jvm.Cond.code ({ cls := "java/lang/StringLatin1", name := "canEncode", desc := "(C)Z" } : Jvm.MethodName) jdk_43_method_3_code (1 : Nat) (Option.some Jvm.ClassFile.FieldType.boolean), Jvm.Cond.code ({ cls := "java/lang/StringLatin1", name := "toBytes", desc := "(C)[B" } : Jvm.MethodName) jdk_43_method_46_code (1 : Nat) (Option.some (Jvm.ClassFile.FieldType.array Jvm.ClassFile.FieldType.byte)), Jvm.Cond.code ({ cls := "java/lang/String", name := "<init>", desc := "([BB)V" } : Jvm.MethodName) jdk_42_method_151_code (3 : Nat) (Option.none : Option Jvm.ClassFile.FieldType)]
set_option maxRecDepth 65536 in
theorem codes_eq : words1.filter isCode = codes1 := rfl
theorem w_codes : ∀ c ∈ words1.filter isCode, c.before args0 about1 = true := by
  rw [codes_eq]
  intro c hc
  simp only [codes1, List.mem_cons, List.not_mem_nil, or_false] at hc
  rcases hc with rfl | rfl | rfl | rfl | rfl | rfl | rfl | rfl | rfl
  · exact w_c0
  · exact w_c1
  · exact w_c2
  · exact w_c3
  · exact w_c4
  · exact w_c5
  · exact w_c6
  · exact w_c7
  · exact w_c8
set_option maxRecDepth 65536 in
theorem w_t1 : (words1.take 24).all (fun c => isCode c || c.before args0 about1) = true := by decide +kernel
set_option maxRecDepth 65536 in
theorem w_t2 : ((words1.drop 24).take 24).all (fun c => isCode c || c.before args0 about1) = true := by decide +kernel
set_option maxRecDepth 65536 in
theorem w_t3 : ((words1.drop 24).drop 24).all (fun c => isCode c || c.before args0 about1) = true := by decide +kernel
theorem w_tables : (allAtoms (Jvm.Cond.code x code maxLocals ret :: tables_1)).before args0 about1 = true := by
  rw [allAtoms_all]
  show words1.all (fun c => c.before args0 about1) = true
  refine all_split ?_ w_codes
  rw [← List.take_append_drop 24 words1, List.all_append, w_t1, ← List.take_append_drop 24 (words1.drop 24), List.all_append, w_t2, w_t3]
  rfl
set_option maxRecDepth 65536 in
theorem w_rest : rest_1_c.before args0 about1 = true := by decide +kernel
set_option maxRecDepth 65536 in
theorem w_case : (Jvm.Cond.and given_1 narrow_1).before args0 about1 = true := by decide +kernel
theorem w_applies : (headSpec (Jvm.Cond.code x code maxLocals ret :: tables_1) room_1).applies x e0.platform about1 = true :=
  (Spec.applies_iff w_frames).mpr ⟨w_running, w_runnable, w_alone, w_named, w_hears, w_ripe, w_room, w_tables⟩
theorem atStart : AtStart classFile x code maxLocals ret World_1 tables_1 room_1 Calls_1 rest_1 Pre_1 launch0 p0 e0 about1 theMethod args0 below0 :=
  ⟨lists_1, trivial, launch0.admits_env _ _ _, launch0.least_env, fairChoices_fair.cas, fairChoices_fair.clock, w_frames, w_args, w_heap, w_applies, trivial, w_rest, w_case⟩
end start1
theorem witness_1 : WitnessClaimed_1 := ⟨start1.p0, start1.e0, start1.about1, start1.theMethod, start1.args0, start1.below0, start1.atStart⟩
end Jvm.Pilot.@@N@@
