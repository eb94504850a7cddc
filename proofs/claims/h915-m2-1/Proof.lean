import JvmDerived
import JvmDerived.Pilot.@@N@@Statement
import JvmDerived.Pilot.@@N@@Code
set_option linter.unusedVariables false
set_option linter.unusedSimpArgs false
namespace Jvm.WK
open Sem ClassFile Op Lib Jvm.Stand Jvm.Free Jvm.LawKit Jvm.RoadKit Bundle
/-! WK: a walk in continuation form over RoadKit's laws: 'Go' (from this frame the invocation ends well), 'W' (where the walk stands; it may have interned), one law a step. -/
abbrev Cx : Type := Program × Env × State × MethodId × Array Value × List Frame × Method × Code
abbrev Cx.p (κ : Cx) : Program := κ.1
abbrev Cx.e (κ : Cx) : Env := κ.2.1
abbrev Cx.s (κ : Cx) : State := κ.2.2.1
abbrev Cx.m (κ : Cx) : MethodId := κ.2.2.2.1
abbrev Cx.a (κ : Cx) : Array Value := κ.2.2.2.2.1
abbrev Cx.b (κ : Cx) : List Frame := κ.2.2.2.2.2.1
abbrev Cx.M (κ : Cx) : Method := κ.2.2.2.2.2.2.1
abbrev Cx.c (κ : Cx) : Code := κ.2.2.2.2.2.2.2
def Fx (κ : Cx) (G : Option Value → State → Prop) (A : State) : Prop :=
  ∃ (v : Option Value) (B : State), Steps κ.p.tables κ.e κ.b A B ∧ B.status = .running ∧ Ended B κ.b (.returned v) ∧ G v B
abbrev Go (κ : Cx) (G : Option Value → State → Prop) (T : State) (pc : Nat) (Ls : Array Slot) (st : List Value) : Prop := Fx κ G (T.setTop (mkF κ.m pc Ls st))
section Base
variable {κ : Cx} {G : Option Value → State → Prop} {T : State}
theorem Fx.via {A A' : State} (k : ∀ t, Steps κ.p.tables κ.e κ.b A' t → Steps κ.p.tables κ.e κ.b A t) (f : Fx κ G A') : Fx κ G A := by
  obtain ⟨v, B, h1, h2⟩ := f; exact ⟨v, B, k _ h1, h2⟩
theorem Fx.after {A A' : State} (k : Steps κ.p.tables κ.e κ.b A A') (f : Fx κ G A') : Fx κ G A := by
  obtain ⟨v, B, h1, h2⟩ := f; exact ⟨v, B, k.trans h1, h2⟩
def Dec (κ : Cx) (D : List (Nat × Instr × Nat)) : Prop := ∀ q ∈ D, decode κ.c.code q.1 = .ok q.2
theorem Dec.g {D : List (Nat × Instr × Nat)} (d : Dec κ D) (i : Nat) {pc : Nat} {ins : Instr} {len : Nat} (h : D[i]? = some (pc, ins, len)) : decode κ.c.code pc = .ok (ins, len) := d (pc, ins, len) (List.mem_of_getElem? h)
theorem Dec.of {D : List (Nat × Instr × Nat)} {code : ByteArray} (hc : κ.c.code = code) (h : ∀ q ∈ D, decode code q.1 = .ok q.2) : Dec κ D := fun q hq => by rw [hc]; exact h q hq
theorem Go.top {pc : Nat} {Ls : Array Slot} {st : List Value} {x y : Int32} (e : x = y) (g : Go κ G T pc Ls (.int y :: st)) : Go κ G T pc Ls (.int x :: st) := by subst e; exact g
/-- it stands, and the tables execute as they should -/
def Ok (κ : Cx) (T : State) : Prop := At T κ.m κ.c κ.b ∧ κ.p.tables.exec = Jvm.exec
abbrev St : Type := Nat × Array Slot × List Value
def Snd (κ : Cx) (T : State) (f : St → Option St) : Prop := ∀ (a b : St) (G : Option Value → State → Prop), f a = some b → Go κ G T b.1 b.2.1 b.2.2 → Go κ G T a.1 a.2.1 a.2.2
def Opn (κ : Cx) (T : State) : Type := { f : St → Option St // Snd κ T f }
def run : List (Opn κ T) → St → Option St
  | [], a => some a
  | o :: os, a => match o.1 a with | some b => run os b | none => none
theorem run_ok : ∀ (os : List (Opn κ T)) (a b : St), run os a = some b → Go κ G T b.1 b.2.1 b.2.2 → Go κ G T a.1 a.2.1 a.2.2
  | [], a, b, h, g => by cases h; exact g
  | o :: os, a, b, h, g => by
    unfold run at h
    split at h
    · rename_i b' hb
      exact o.2 a b' G hb (run_ok os b' b h g)
    · cases h
theorem blk (os : List (Opn κ T)) {pc pc' : Nat} {Ls Ls' : Array Slot} {st st' : List Value} (h : run os (pc, Ls, st) = some (pc', Ls', st')) (g : Go κ G T pc' Ls' st') : Go κ G T pc Ls st := run_ok os (pc, Ls, st) (pc', Ls', st') h g
def mkOp (pc0 : Nat) (f : Array Slot → List Value → Option St) (hs : ∀ (Ls : Array Slot) (st : List Value) (b : St) (G : Option Value → State → Prop), f Ls st = some b → Go κ G T b.1 b.2.1 b.2.2 → Go κ G T pc0 Ls st) : Opn κ T :=
  ⟨fun a => match Nat.beq a.1 pc0 with | true => f a.2.1 a.2.2 | false => none, by
    intro a b G h g
    obtain ⟨pc, Ls, st⟩ := a
    dsimp only at h
    split at h
    · rename_i hb
      have := Nat.eq_of_beq_eq_true hb
      subst this
      exact hs Ls st b G h g
    · cases h⟩
end Base
section Ops
variable {κ : Cx} {T : State} {pc0 : Nat}
def oIconst (w : Ok κ T) {i : Int} (hd : decode κ.c.code pc0 = .ok (.iconst i, 1)) : Opn κ T := mkOp pc0 (fun Ls st => some (pc0 + 1, Ls, .int (Int32.ofInt i) :: st)) (by
  intro Ls st b G h g; cases h; exact Fx.via (fun _ => XS.iconst w.1 w.2 rfl hd) g)
def oBipush (w : Ok κ T) {i : Int} (hd : decode κ.c.code pc0 = .ok (.bipush i, 2)) : Opn κ T := mkOp pc0 (fun Ls st => some (pc0 + 2, Ls, .int (Int8.ofInt i).toInt32 :: st)) (by
  intro Ls st b G h g; cases h; exact Fx.via (fun _ => XS.bipush w.1 w.2 rfl hd) g)
def oSipush (w : Ok κ T) {i : Int} (hd : decode κ.c.code pc0 = .ok (.sipush i, 3)) : Opn κ T := mkOp pc0 (fun Ls st => some (pc0 + 3, Ls, .int (Int16.ofInt i).toInt32 :: st)) (by
  intro Ls st b G h g; cases h; exact Fx.via (fun _ => XS.sipush w.1 w.2 rfl hd) g)
def oAnull (w : Ok κ T) (hd : decode κ.c.code pc0 = .ok (.aconst_null, 1)) : Opn κ T := mkOp pc0 (fun Ls st => some (pc0 + 1, Ls, .null :: st)) (by
  intro Ls st b G h g; cases h; exact Fx.via (fun _ => XS.aconstNull w.1 w.2 rfl hd) g)
def oIload (w : Ok κ T) {k : Nat} (hd : decode κ.c.code pc0 = .ok (.iload k, 2)) : Opn κ T := mkOp pc0 (fun Ls st => match Ls[k]? with | some (.val (.int v)) => some (pc0 + 2, Ls, .int v :: st) | _ => none) (by
  intro Ls st b G h g
  split at h
  · rename_i v hl; cases h; exact Fx.via (fun _ => XS.iload w.1 w.2 rfl hd hl) g
  · cases h)
def oIloadN (w : Ok κ T) {k : Fin 4} (hd : decode κ.c.code pc0 = .ok (.iload_n k, 1)) : Opn κ T := mkOp pc0 (fun Ls st => match Ls[k.val]? with | some (.val (.int v)) => some (pc0 + 1, Ls, .int v :: st) | _ => none) (by
  intro Ls st b G h g
  split at h
  · rename_i v hl; cases h; exact Fx.via (fun _ => XS.iloadN w.1 w.2 rfl hd hl) g
  · cases h)
def oDload (w : Ok κ T) {k : Nat} (hd : decode κ.c.code pc0 = .ok (.dload k, 2)) : Opn κ T := mkOp pc0 (fun Ls st => match Ls[k]? with | some (.val (.double v)) => some (pc0 + 2, Ls, .double v :: st) | _ => none) (by
  intro Ls st b G h g
  split at h
  · rename_i v hl; cases h; exact Fx.via (fun _ => XS.dload w.1 w.2 rfl hd hl) g
  · cases h)
def oAload (w : Ok κ T) {k : Nat} (hd : decode κ.c.code pc0 = .ok (.aload k, 2)) : Opn κ T := mkOp pc0 (fun Ls st => match Ls[k]? with | some (.val (.ref v)) => some (pc0 + 2, Ls, .ref v :: st) | some (.val .null) => some (pc0 + 2, Ls, .null :: st) | _ => none) (by
  intro Ls st b G h g
  split at h
  · rename_i v hl; cases h; exact Fx.via (fun _ => XS.aload w.1 w.2 rfl hd hl rfl) g
  · rename_i hl; cases h; exact Fx.via (fun _ => XS.aload w.1 w.2 rfl hd hl rfl) g
  · cases h)
def oAloadN (w : Ok κ T) {k : Fin 4} (hd : decode κ.c.code pc0 = .ok (.aload_n k, 1)) : Opn κ T := mkOp pc0 (fun Ls st => match Ls[k.val]? with | some (.val (.ref v)) => some (pc0 + 1, Ls, .ref v :: st) | some (.val .null) => some (pc0 + 1, Ls, .null :: st) | _ => none) (by
  intro Ls st b G h g
  split at h
  · rename_i v hl; cases h; exact Fx.via (fun _ => XS.aloadN w.1 w.2 rfl hd hl rfl) g
  · rename_i hl; cases h; exact Fx.via (fun _ => XS.aloadN w.1 w.2 rfl hd hl rfl) g
  · cases h)
def oIstore (w : Ok κ T) {k : Nat} (hd : decode κ.c.code pc0 = .ok (.istore k, 2)) : Opn κ T := mkOp pc0 (fun Ls st => match st with | .int x :: r => (match storeLocals Ls k (.int x) with | some l' => some (pc0 + 2, l', r) | none => none) | _ => none) (by
  intro Ls st b G h g
  split at h
  · split at h
    · rename_i l' hl; cases h; exact Fx.via (fun _ => XS.istore w.1 w.2 rfl hd rfl hl) g
    · cases h
  · cases h)
def oIstoreN (w : Ok κ T) {k : Fin 4} (hd : decode κ.c.code pc0 = .ok (.istore_n k, 1)) : Opn κ T := mkOp pc0 (fun Ls st => match st with | .int x :: r => (match storeLocals Ls k.val (.int x) with | some l' => some (pc0 + 1, l', r) | none => none) | _ => none) (by
  intro Ls st b G h g
  split at h
  · split at h
    · rename_i l' hl; cases h; exact Fx.via (fun _ => XS.istoreN w.1 w.2 rfl hd rfl hl) g
    · cases h
  · cases h)
def oDstore (w : Ok κ T) {k : Nat} (hd : decode κ.c.code pc0 = .ok (.dstore k, 2)) : Opn κ T := mkOp pc0 (fun Ls st => match st with | .double x :: r => (match storeLocals Ls k (.double x) with | some l' => some (pc0 + 2, l', r) | none => none) | _ => none) (by
  intro Ls st b G h g
  split at h
  · split at h
    · rename_i l' hl; cases h; exact Fx.via (fun _ => XS.dstore w.1 w.2 rfl hd rfl hl) g
    · cases h
  · cases h)
def oAstore (w : Ok κ T) {k : Nat} (hd : decode κ.c.code pc0 = .ok (.astore k, 2)) : Opn κ T := mkOp pc0 (fun Ls st => match st with | .ref x :: r => (match storeLocals Ls k (.ref x) with | some l' => some (pc0 + 2, l', r) | none => none) | .null :: r => (match storeLocals Ls k .null with | some l' => some (pc0 + 2, l', r) | none => none) | _ => none) (by
  intro Ls st b G h g
  split at h
  · split at h
    · rename_i l' hl; cases h; exact Fx.via (fun _ => XS.astore w.1 w.2 rfl hd rfl rfl hl) g
    · cases h
  · split at h
    · rename_i l' hl; cases h; exact Fx.via (fun _ => XS.astore w.1 w.2 rfl hd rfl rfl hl) g
    · cases h
  · cases h)
def oAstoreN (w : Ok κ T) {k : Fin 4} (hd : decode κ.c.code pc0 = .ok (.astore_n k, 1)) : Opn κ T := mkOp pc0 (fun Ls st => match st with | .ref x :: r => (match storeLocals Ls k.val (.ref x) with | some l' => some (pc0 + 1, l', r) | none => none) | .null :: r => (match storeLocals Ls k.val .null with | some l' => some (pc0 + 1, l', r) | none => none) | _ => none) (by
  intro Ls st b G h g
  split at h
  · split at h
    · rename_i l' hl; cases h; exact Fx.via (fun _ => XS.astoreN w.1 w.2 rfl hd rfl rfl hl) g
    · cases h
  · split at h
    · rename_i l' hl; cases h; exact Fx.via (fun _ => XS.astoreN w.1 w.2 rfl hd rfl rfl hl) g
    · cases h
  · cases h)
def oIinc (w : Ok κ T) {k : Nat} {z : Int} (hd : decode κ.c.code pc0 = .ok (.iinc k z, 3)) : Opn κ T := mkOp pc0 (fun Ls st => match Ls[k]? with | some (.val (.int x)) => (match storeLocals Ls k (.int (x + Int32.ofInt z)) with | some l' => some (pc0 + 3, l', st) | none => none) | _ => none) (by
  intro Ls st b G h g
  split at h
  · rename_i x hx
    split at h
    · rename_i l' hl; cases h; exact Fx.via (fun _ => XS.iinc w.1 w.2 rfl hd hx hl) g
    · cases h
  · cases h)
def oBin (pc0 : Nat) (f : Int32 → Int32 → Int32) (hs : ∀ (x y : Int32) (r : List Value) (Ls : Array Slot) (G : Option Value → State → Prop), Go κ G T (pc0 + 1) Ls (.int (f x y) :: r) → Go κ G T pc0 Ls (.int y :: .int x :: r)) : Opn κ T := mkOp pc0 (fun Ls st => match st with | .int y :: .int x :: r => some (pc0 + 1, Ls, .int (f x y) :: r) | _ => none) (by
  intro Ls st b G h g
  split at h
  · cases h; exact hs _ _ _ _ _ g
  · cases h)
def oIadd (w : Ok κ T) (hd : decode κ.c.code pc0 = .ok (.iadd, 1)) : Opn κ T := oBin pc0 (fun x y => x + y) (fun _ _ _ _ _ g => Fx.via (fun _ => XS.iadd w.1 w.2 rfl hd rfl) g)
def oIsub (w : Ok κ T) (hd : decode κ.c.code pc0 = .ok (.isub, 1)) : Opn κ T := oBin pc0 (fun x y => x - y) (fun _ _ _ _ _ g => Fx.via (fun _ => XS.isub w.1 w.2 rfl hd rfl) g)
def oImul (w : Ok κ T) (hd : decode κ.c.code pc0 = .ok (.imul, 1)) : Opn κ T := oBin pc0 (fun x y => x * y) (fun _ _ _ _ _ g => Fx.via (fun _ => XS.imul w.1 w.2 rfl hd rfl) g)
def oIand (w : Ok κ T) (hd : decode κ.c.code pc0 = .ok (.iand, 1)) : Opn κ T := oBin pc0 (fun x y => x &&& y) (fun _ _ _ _ _ g => Fx.via (fun _ => XS.iand w.1 w.2 rfl hd rfl) g)
def oIor (w : Ok κ T) (hd : decode κ.c.code pc0 = .ok (.ior, 1)) : Opn κ T := oBin pc0 (fun x y => x ||| y) (fun _ _ _ _ _ g => Fx.via (fun _ => XS.ior w.1 w.2 rfl hd rfl) g)
def oIxor (w : Ok κ T) (hd : decode κ.c.code pc0 = .ok (.ixor, 1)) : Opn κ T := oBin pc0 (fun x y => x ^^^ y) (fun _ _ _ _ _ g => Fx.via (fun _ => XS.ixor w.1 w.2 rfl hd rfl) g)
def oIshl (w : Ok κ T) (hd : decode κ.c.code pc0 = .ok (.ishl, 1)) : Opn κ T := oBin pc0 (fun x y => x <<< (y &&& 31)) (fun _ _ _ _ _ g => Fx.via (fun _ => XS.ishl w.1 w.2 rfl hd rfl) g)
def oIshr (w : Ok κ T) (hd : decode κ.c.code pc0 = .ok (.ishr, 1)) : Opn κ T := oBin pc0 (fun x y => x >>> (y &&& 31)) (fun _ _ _ _ _ g => Fx.via (fun _ => XS.ishr w.1 w.2 rfl hd rfl) g)
def oIushr (w : Ok κ T) (hd : decode κ.c.code pc0 = .ok (.iushr, 1)) : Opn κ T := oBin pc0 (fun x y => (x.toUInt32 >>> (y &&& 31).toUInt32).toInt32) (fun _ _ _ _ _ g => Fx.via (fun _ => XS.iushr w.1 w.2 rfl hd rfl) g)
def oIrem (w : Ok κ T) (hd : decode κ.c.code pc0 = .ok (.irem, 1)) : Opn κ T := mkOp pc0 (fun Ls st => match st with | .int y :: .int x :: r => (match decEq y 0 with | isTrue _ => none | isFalse _ => some (pc0 + 1, Ls, .int (x % y) :: r)) | _ => none) (by
  intro Ls st b G h g
  split at h
  · split at h
    · cases h
    · rename_i x y r _ hy _; cases h
      refine Fx.via (fun _ z => XS.irem w.1 w.2 rfl hd rfl hy ?_) g
      have q := irem_eq_mod
      rw [q]; exact z
  · cases h)
def oUn (pc0 : Nat) (f : Int32 → Int32) (hs : ∀ (x : Int32) (r : List Value) (Ls : Array Slot) (G : Option Value → State → Prop), Go κ G T (pc0 + 1) Ls (.int (f x) :: r) → Go κ G T pc0 Ls (.int x :: r)) : Opn κ T := mkOp pc0 (fun Ls st => match st with | .int x :: r => some (pc0 + 1, Ls, .int (f x) :: r) | _ => none) (by
  intro Ls st b G h g
  split at h
  · cases h; exact hs _ _ _ _ g
  · cases h)
def oIneg (w : Ok κ T) (hd : decode κ.c.code pc0 = .ok (.ineg, 1)) : Opn κ T := oUn pc0 (fun x => -x) (fun _ _ _ _ g => Fx.via (fun _ => XS.ineg w.1 w.2 rfl hd rfl) g)
def oI2b (w : Ok κ T) (hd : decode κ.c.code pc0 = .ok (.i2b, 1)) : Opn κ T := oUn pc0 (fun x => x.toInt8.toInt32) (fun _ _ _ _ g => Fx.via (fun _ => XS.i2b w.1 w.2 rfl hd rfl) g)
def oI2c (w : Ok κ T) (hd : decode κ.c.code pc0 = .ok (.i2c, 1)) : Opn κ T := oUn pc0 (fun x => x.toUInt32.toUInt16.toUInt32.toInt32) (fun _ _ _ _ g => Fx.via (fun _ => XS.i2c w.1 w.2 rfl hd rfl) g)
def oI2s (w : Ok κ T) (hd : decode κ.c.code pc0 = .ok (.i2s, 1)) : Opn κ T := oUn pc0 (fun x => x.toInt16.toInt32) (fun _ _ _ _ g => Fx.via (fun _ => XS.i2s w.1 w.2 rfl hd rfl) g)
def oI2d (w : Ok κ T) (hd : decode κ.c.code pc0 = .ok (.i2d, 1)) : Opn κ T := mkOp pc0 (fun Ls st => match st with | .int x :: r => some (pc0 + 1, Ls, .double (FP.i2d x) :: r) | _ => none) (by
  intro Ls st b G h g
  split at h
  · cases h; exact Fx.via (fun _ => XS.i2dS w.1 w.2 rfl hd rfl rfl) g
  · cases h)
def oDup (w : Ok κ T) (hd : decode κ.c.code pc0 = .ok (.dup, 1)) : Opn κ T := mkOp pc0 (fun Ls st => match st with | .int x :: r => some (pc0 + 1, Ls, .int x :: .int x :: r) | .ref x :: r => some (pc0 + 1, Ls, .ref x :: .ref x :: r) | _ => none) (by
  intro Ls st b G h g
  split at h
  · cases h; exact Fx.via (fun _ => XS.dup w.1 w.2 rfl hd rfl rfl) g
  · cases h; exact Fx.via (fun _ => XS.dup w.1 w.2 rfl hd rfl rfl) g
  · cases h)
def oPop (w : Ok κ T) (hd : decode κ.c.code pc0 = .ok (.pop, 1)) : Opn κ T := mkOp pc0 (fun Ls st => match st with | .int x :: r => some (pc0 + 1, Ls, r) | .ref x :: r => some (pc0 + 1, Ls, r) | .null :: r => some (pc0 + 1, Ls, r) | _ => none) (by
  intro Ls st b G h g
  split at h
  · cases h; exact Fx.via (fun _ => XS.pop w.1 w.2 rfl hd rfl rfl) g
  · cases h; exact Fx.via (fun _ => XS.pop w.1 w.2 rfl hd rfl rfl) g
  · cases h; exact Fx.via (fun _ => XS.pop w.1 w.2 rfl hd rfl rfl) g
  · cases h)
def oGoto (w : Ok κ T) {o : Int} (pc' : Nat) (hd : decode κ.c.code pc0 = .ok (.goto o, 3)) (ho : 0 ≤ (pc0 : Int) + o := by decide) (hp : ((pc0 : Int) + o).toNat = pc' := by decide) : Opn κ T := mkOp pc0 (fun Ls st => some (pc', Ls, st)) (by
  intro Ls st b G h g; cases h; exact Fx.via (fun _ => XS.goto w.1 w.2 rfl rfl hd ho hp) g)
end Ops
section Branch
variable {κ : Cx} {G : Option Value → State → Prop} {T : State} {pc pc' : Nat} {Ls : Array Slot} {st : List Value} {x y : Int32} {o : Int}
theorem if_icmpG (w : Ok κ T) {cd : ClassFile.Cond} (hd : decode κ.c.code pc = .ok (.if_icmp cd o, 3)) (ho : 0 ≤ (pc : Int) + o) (hp : ((pc : Int) + o).toNat = pc') (hT : if_icmp.holds cd x y = true → Go κ G T pc' Ls st) (hF : if_icmp.holds cd x y = false → Go κ G T (pc + 3) Ls st) : Go κ G T pc Ls (.int y :: .int x :: st) := by
  cases hb : if_icmp.holds cd x y with
  | true => exact Fx.via (fun _ => XS.icmpYes w.1 w.2 rfl rfl hd rfl hb ho hp) (hT hb)
  | false => exact Fx.via (fun _ => XS.icmpNo w.1 w.2 rfl hd rfl hb) (hF hb)
theorem ifG (w : Ok κ T) {cd : ClassFile.Cond} (hd : decode κ.c.code pc = .ok (.ifCond cd o, 3)) (ho : 0 ≤ (pc : Int) + o) (hp : ((pc : Int) + o).toNat = pc') (hT : if_icmp.holds cd x 0 = true → Go κ G T pc' Ls st) (hF : if_icmp.holds cd x 0 = false → Go κ G T (pc + 3) Ls st) : Go κ G T pc Ls (.int x :: st) := by
  cases hb : if_icmp.holds cd x 0 with
  | true => exact Fx.via (fun _ => XS.ifYes w.1 w.2 rfl rfl hd rfl ((if0 cd x).trans hb) ho hp) (hT hb)
  | false => exact Fx.via (fun _ => XS.ifNo w.1 w.2 rfl hd rfl ((if0 cd x).trans hb)) (hF hb)
theorem h_eq {x y : Int32} : (if_icmp.holds .eq x y = true → x = y) ∧ (if_icmp.holds .eq x y = false → ¬ x = y) := ⟨fun h => Classical.byContradiction fun q => (by rw [(feq q).1] at h; cases h), fun h q => (by rw [(teq q).1] at h; cases h)⟩
theorem h_ne {x y : Int32} : (if_icmp.holds .ne x y = true → ¬ x = y) ∧ (if_icmp.holds .ne x y = false → x = y) := ⟨fun h q => (by rw [(teq q).2] at h; cases h), fun h => Classical.byContradiction fun q => (by rw [(feq q).2] at h; cases h)⟩
theorem h_lt {x y : Int32} : (if_icmp.holds .lt x y = true → x < y) ∧ (if_icmp.holds .lt x y = false → ¬ x < y) := ⟨fun h => Classical.byContradiction fun q => (by rw [(flt q).1] at h; cases h), fun h q => (by rw [(tlt q).1] at h; cases h)⟩
theorem h_ge {x y : Int32} : (if_icmp.holds .ge x y = true → ¬ x < y) ∧ (if_icmp.holds .ge x y = false → x < y) := ⟨fun h q => (by rw [(tlt q).2.1] at h; cases h), fun h => Classical.byContradiction fun q => (by rw [(flt q).2.1] at h; cases h)⟩
theorem h_gt {x y : Int32} : (if_icmp.holds .gt x y = true → y < x) ∧ (if_icmp.holds .gt x y = false → ¬ y < x) := ⟨fun h => Classical.byContradiction fun q => (by rw [(flt q).2.2.1] at h; cases h), fun h q => (by rw [(tlt q).2.2.1] at h; cases h)⟩
theorem h_le {x y : Int32} : (if_icmp.holds .le x y = true → ¬ y < x) ∧ (if_icmp.holds .le x y = false → y < x) := ⟨fun h q => (by rw [(tlt q).2.2.2] at h; cases h), fun h => Classical.byContradiction fun q => (by rw [(flt q).2.2.2] at h; cases h)⟩
theorem cEq (w : Ok κ T) (hd : decode κ.c.code pc = .ok (.if_icmp .eq o, 3)) (ho : 0 ≤ (pc : Int) + o) (hp : ((pc : Int) + o).toNat = pc') (hT : x = y → Go κ G T pc' Ls st) (hF : ¬ x = y → Go κ G T (pc + 3) Ls st) : Go κ G T pc Ls (.int y :: .int x :: st) := if_icmpG w hd ho hp (fun q => hT (h_eq.1 q)) (fun q => hF (h_eq.2 q))
theorem cNe (w : Ok κ T) (hd : decode κ.c.code pc = .ok (.if_icmp .ne o, 3)) (ho : 0 ≤ (pc : Int) + o) (hp : ((pc : Int) + o).toNat = pc') (hT : ¬ x = y → Go κ G T pc' Ls st) (hF : x = y → Go κ G T (pc + 3) Ls st) : Go κ G T pc Ls (.int y :: .int x :: st) := if_icmpG w hd ho hp (fun q => hT (h_ne.1 q)) (fun q => hF (h_ne.2 q))
theorem cLt (w : Ok κ T) (hd : decode κ.c.code pc = .ok (.if_icmp .lt o, 3)) (ho : 0 ≤ (pc : Int) + o) (hp : ((pc : Int) + o).toNat = pc') (hT : x < y → Go κ G T pc' Ls st) (hF : ¬ x < y → Go κ G T (pc + 3) Ls st) : Go κ G T pc Ls (.int y :: .int x :: st) := if_icmpG w hd ho hp (fun q => hT (h_lt.1 q)) (fun q => hF (h_lt.2 q))
theorem cGe (w : Ok κ T) (hd : decode κ.c.code pc = .ok (.if_icmp .ge o, 3)) (ho : 0 ≤ (pc : Int) + o) (hp : ((pc : Int) + o).toNat = pc') (hT : ¬ x < y → Go κ G T pc' Ls st) (hF : x < y → Go κ G T (pc + 3) Ls st) : Go κ G T pc Ls (.int y :: .int x :: st) := if_icmpG w hd ho hp (fun q => hT (h_ge.1 q)) (fun q => hF (h_ge.2 q))
theorem cGt (w : Ok κ T) (hd : decode κ.c.code pc = .ok (.if_icmp .gt o, 3)) (ho : 0 ≤ (pc : Int) + o) (hp : ((pc : Int) + o).toNat = pc') (hT : y < x → Go κ G T pc' Ls st) (hF : ¬ y < x → Go κ G T (pc + 3) Ls st) : Go κ G T pc Ls (.int y :: .int x :: st) := if_icmpG w hd ho hp (fun q => hT (h_gt.1 q)) (fun q => hF (h_gt.2 q))
theorem cLe (w : Ok κ T) (hd : decode κ.c.code pc = .ok (.if_icmp .le o, 3)) (ho : 0 ≤ (pc : Int) + o) (hp : ((pc : Int) + o).toNat = pc') (hT : ¬ y < x → Go κ G T pc' Ls st) (hF : y < x → Go κ G T (pc + 3) Ls st) : Go κ G T pc Ls (.int y :: .int x :: st) := if_icmpG w hd ho hp (fun q => hT (h_le.1 q)) (fun q => hF (h_le.2 q))
theorem zEq (w : Ok κ T) (hd : decode κ.c.code pc = .ok (.ifCond .eq o, 3)) (ho : 0 ≤ (pc : Int) + o) (hp : ((pc : Int) + o).toNat = pc') (hT : x = 0 → Go κ G T pc' Ls st) (hF : ¬ x = 0 → Go κ G T (pc + 3) Ls st) : Go κ G T pc Ls (.int x :: st) := ifG w hd ho hp (fun q => hT (h_eq.1 q)) (fun q => hF (h_eq.2 q))
theorem zNe (w : Ok κ T) (hd : decode κ.c.code pc = .ok (.ifCond .ne o, 3)) (ho : 0 ≤ (pc : Int) + o) (hp : ((pc : Int) + o).toNat = pc') (hT : ¬ x = 0 → Go κ G T pc' Ls st) (hF : x = 0 → Go κ G T (pc + 3) Ls st) : Go κ G T pc Ls (.int x :: st) := ifG w hd ho hp (fun q => hT (h_ne.1 q)) (fun q => hF (h_ne.2 q))
theorem zLt (w : Ok κ T) (hd : decode κ.c.code pc = .ok (.ifCond .lt o, 3)) (ho : 0 ≤ (pc : Int) + o) (hp : ((pc : Int) + o).toNat = pc') (hT : x < 0 → Go κ G T pc' Ls st) (hF : ¬ x < 0 → Go κ G T (pc + 3) Ls st) : Go κ G T pc Ls (.int x :: st) := ifG w hd ho hp (fun q => hT (h_lt.1 q)) (fun q => hF (h_lt.2 q))
theorem zGe (w : Ok κ T) (hd : decode κ.c.code pc = .ok (.ifCond .ge o, 3)) (ho : 0 ≤ (pc : Int) + o) (hp : ((pc : Int) + o).toNat = pc') (hT : ¬ x < 0 → Go κ G T pc' Ls st) (hF : x < 0 → Go κ G T (pc + 3) Ls st) : Go κ G T pc Ls (.int x :: st) := ifG w hd ho hp (fun q => hT (h_ge.1 q)) (fun q => hF (h_ge.2 q))
theorem zGt (w : Ok κ T) (hd : decode κ.c.code pc = .ok (.ifCond .gt o, 3)) (ho : 0 ≤ (pc : Int) + o) (hp : ((pc : Int) + o).toNat = pc') (hT : 0 < x → Go κ G T pc' Ls st) (hF : ¬ 0 < x → Go κ G T (pc + 3) Ls st) : Go κ G T pc Ls (.int x :: st) := ifG w hd ho hp (fun q => hT (h_gt.1 q)) (fun q => hF (h_gt.2 q))
theorem zLe (w : Ok κ T) (hd : decode κ.c.code pc = .ok (.ifCond .le o, 3)) (ho : 0 ≤ (pc : Int) + o) (hp : ((pc : Int) + o).toNat = pc') (hT : ¬ 0 < x → Go κ G T pc' Ls st) (hF : 0 < x → Go κ G T (pc + 3) Ls st) : Go κ G T pc Ls (.int x :: st) := ifG w hd ho hp (fun q => hT (h_le.1 q)) (fun q => hF (h_le.2 q))
theorem nnRef (w : Ok κ T) {a : Addr} (hd : decode κ.c.code pc = .ok (.ifnonnull o, 3)) (ho : 0 ≤ (pc : Int) + o) (hp : ((pc : Int) + o).toNat = pc') (g : Go κ G T pc' Ls st) : Go κ G T pc Ls (.ref a :: st) := Fx.via (fun _ => XT.nonnullYes w.1 w.2 rfl rfl hd rfl rfl (fun q => nomatch q) ho hp) g
theorem nnNull (w : Ok κ T) (hd : decode κ.c.code pc = .ok (.ifnonnull o, 3)) (g : Go κ G T (pc + 3) Ls st) : Go κ G T pc Ls (.null :: st) := Fx.via (fun _ => XT.nonnullNo w.1 w.2 rfl hd rfl rfl) g
theorem nuNull (w : Ok κ T) (hd : decode κ.c.code pc = .ok (.ifnull o, 3)) (ho : 0 ≤ (pc : Int) + o) (hp : ((pc : Int) + o).toNat = pc') (g : Go κ G T pc' Ls st) : Go κ G T pc Ls (.null :: st) := Fx.via (fun _ => XS.ifnullYes w.1 w.2 rfl rfl hd rfl ho hp) g
theorem nuRef (w : Ok κ T) {a : Addr} (hd : decode κ.c.code pc = .ok (.ifnull o, 3)) (g : Go κ G T (pc + 3) Ls st) : Go κ G T pc Ls (.ref a :: st) := Fx.via (fun _ => XS.ifnullNo w.1 w.2 rfl hd rfl) g
theorem aloadV (w : Ok κ T) {k : Nat} {v : Value} (hd : decode κ.c.code pc = .ok (.aload k, 2)) (hl : Ls[k]? = some (.val v)) (hv : v.isRef = true) (g : Go κ G T (pc + 2) Ls (v :: st)) : Go κ G T pc Ls st := Fx.via (fun _ => XS.aload w.1 w.2 rfl hd hl hv) g
theorem aloadNV (w : Ok κ T) {k : Fin 4} {v : Value} (hd : decode κ.c.code pc = .ok (.aload_n k, 1)) (hl : Ls[k.val]? = some (.val v)) (hv : v.isRef = true) (g : Go κ G T (pc + 1) Ls (v :: st)) : Go κ G T pc Ls st := Fx.via (fun _ => XS.aloadN w.1 w.2 rfl hd hl hv) g
theorem astoreV (w : Ok κ T) {k : Nat} {v : Value} {l' : Array Slot} (hd : decode κ.c.code pc = .ok (.astore k, 2)) (hv : v.isRef = true) (hl : storeLocals Ls k v = some l') (g : Go κ G T (pc + 2) l' st) : Go κ G T pc Ls (v :: st) := Fx.via (fun _ => XS.astore w.1 w.2 rfl hd rfl hv hl) g
theorem astoreNV (w : Ok κ T) {k : Fin 4} {v : Value} {l' : Array Slot} (hd : decode κ.c.code pc = .ok (.astore_n k, 1)) (hv : v.isRef = true) (hl : storeLocals Ls k.val v = some l') (g : Go κ G T (pc + 1) l' st) : Go κ G T pc Ls (v :: st) := Fx.via (fun _ => XS.astoreN w.1 w.2 rfl hd rfl hv hl) g
theorem istoreG (w : Ok κ T) {k : Nat} {o' : Slot} (hd : decode κ.c.code pc = .ok (.istore k, 2)) (hold : Ls[k]? = some o') (ho : One o') (g : Go κ G T (pc + 2) (Ls.setIfInBounds k (.val (.int x))) st) : Go κ G T pc Ls (.int x :: st) := Fx.via (fun _ => XS.istoreS w.1 w.2 rfl hd rfl hold ho) g
theorem istoreNG (w : Ok κ T) {k : Fin 4} {o' : Slot} (hd : decode κ.c.code pc = .ok (.istore_n k, 1)) (hold : Ls[k.val]? = some o') (ho : One o') (g : Go κ G T (pc + 1) (Ls.setIfInBounds k.val (.val (.int x))) st) : Go κ G T pc Ls (.int x :: st) := Fx.via (fun _ => XS.istoreNS w.1 w.2 rfl hd rfl hold ho) g
theorem astoreG (w : Ok κ T) {k : Nat} {o' : Slot} {a : Addr} (hd : decode κ.c.code pc = .ok (.astore k, 2)) (hold : Ls[k]? = some o') (ho : One o') (g : Go κ G T (pc + 2) (Ls.setIfInBounds k (.val (.ref a))) st) : Go κ G T pc Ls (.ref a :: st) := Fx.via (fun _ => XS.astoreS w.1 w.2 rfl hd rfl rfl rfl hold ho) g
end Branch
end Jvm.WK
namespace Jvm.WK
open Sem ClassFile Op Lib Jvm.Stand Jvm.Free Jvm.LawKit Jvm.RoadKit Bundle
theorem wd {L : List Jvm.Cond} {a0 : Array Value} {Z : State} (hw : ∀ d ∈ L, d.before a0 Z = true) (k : Nat) {d : Jvm.Cond} (h : L[k]? = some d) : d.before a0 Z = true := hw d (List.mem_of_getElem? h)
/-- an array of ints (or chars, bytes ..) with its values -/
def Ary (Z : State) (h : Heap) (a : Addr) (ty : FieldType) (vs : List Int32) : Prop :=
  ∃ c : Cell, Arr Z h a c ty ∧ c.slots.toList = vs.map Value.int ∧ vs.length < 2147483648 ∧ ∀ v ∈ vs, fits ty (.int v) = true
section AryFacts
variable {Z : State} {h h' : Heap} {a b : Addr} {ty : FieldType} {vs : List Int32} {ws : List Addr} {sl : Nat} {v : Value}
theorem Ary.lt (F : Ary Z h a ty vs) : a < h.size := by obtain ⟨c, A, -⟩ := F; exact A.lt
theorem Ary.ext (E : Ext h h') (F : Ary Z h a ty vs) : Ary Z h' a ty vs := by obtain ⟨c, A, r⟩ := F; exact ⟨c, A.ext E, r⟩
theorem Ary.other (W : Wr h h' b sl v) (F : Ary Z h a ty vs) (q : a ≠ b) : Ary Z h' a ty vs := by obtain ⟨c, A, r⟩ := F; exact ⟨c, A.other W q, r⟩
theorem Ary.keep (K : Keep h h' ws) (F : Ary Z h a ty vs) (q : a ∉ ws) : Ary Z h' a ty vs := by obtain ⟨c, A, r⟩ := F; exact ⟨c, ⟨K.2.1 a c A.1 q, A.2⟩, r⟩
theorem Ary.small (F : Ary Z h a ty vs) : vs.length < 2147483648 := by obtain ⟨c, A, r1, r2, -⟩ := F; exact r2
theorem Ary.fit (F : Ary Z h a ty vs) : ∀ v ∈ vs, fits ty (.int v) = true := by obtain ⟨c, A, r1, r2, r3⟩ := F; exact r3
theorem clamp_ofNat {i : Nat} (h : i < 2147483648) : (Int32.ofNat i).toNatClampNeg = i := by
  have h1 : (Int32.ofNat i).toInt = (i : Int) := Int32.toInt_ofNat_small (by omega)
  show (Int32.ofNat i).toInt.toNat = i
  rw [h1]; rfl
theorem nneg_ofNat {i : Nat} (h : i < 2147483648) : ¬ (Int32.ofNat i) < 0 := by
  have h1 : (Int32.ofNat i).toInt = (i : Int) := Int32.toInt_ofNat_small (by omega)
  rw [Int32.lt_iff_toInt_lt, h1]
  show ¬ ((i : Int) < 0)
  omega
theorem Ary.inb {c : Cell} {i : Nat} (hs : c.slots.toList = vs.map Value.int) (hl : vs.length < 2147483648) (hi : i < vs.length) : ¬ (Int32.ofNat i < 0 ∨ c.slots.size ≤ (Int32.ofNat i).toNatClampNeg) := by
  have hz : c.slots.size = vs.length := by
    have := congrArg List.length hs
    simpa using this
  rw [clamp_ofNat (by omega)]
  have := nneg_ofNat (i := i) (by omega)
  exact fun q => q.elim this (fun q => by omega)
theorem Ary.at {c : Cell} {i : Nat} (hs : c.slots.toList = vs.map Value.int) (hl : vs.length < 2147483648) (hi : i < vs.length) {x : Int32} (hx : vs[i]? = some x) : c.slots[(Int32.ofNat i).toNatClampNeg]? = some (.int x) := by
  rw [clamp_ofNat (by omega)]
  have : c.slots[i]? = c.slots.toList[i]? := by simp
  rw [this, hs]
  simp [hx]
theorem Ary.arv (F : Ary Z h a ty vs) : ∃ k, Arv Z h a k ty (Int32.ofNat vs.length) (vs.map Value.int) (.int 0) := by
  obtain ⟨c, A, r1, r2, r3⟩ := F
  have hz : c.slots.size = vs.length := by
    have := congrArg List.length r1
    simpa using this
  have H : Has c (vs.map Value.int) (.int 0) := fun k hk => by
    have : c.slots[k]? = c.slots.toList[k]? := by simp
    rw [this, r1]
    have hk' : k < vs.length := by omega
    simp [List.getD, hk']
  refine ⟨c.cls, c, A, rfl, by rw [hz, clamp_ofNat r2], nneg_ofNat r2, H, fun i hi => ?_⟩
  have hi' : i < vs.length := by omega
  simp only [List.getD, List.getElem?_map, List.getElem?_eq_getElem hi', Option.map_some, Option.getD_some]
  exact r3 _ (List.getElem_mem hi')
theorem Ary.of_arv {k : ClassId} {z : Int32} (hz : z.toNatClampNeg = vs.length) (F : Arv Z h a k ty z (vs.map Value.int) (.int 0)) : Ary Z h a ty vs := by
  obtain ⟨c, A, r1, r2, r3, H, r4⟩ := F
  have hs : c.slots.size = vs.length := r2.trans hz
  have hb := (back32 r3).2
  refine ⟨c, A, ?_, by omega, fun v hv => ?_⟩
  · apply List.ext_getElem?
    intro i
    by_cases hi : i < c.slots.size
    · have := H i hi
      have e : c.slots[i]? = c.slots.toList[i]? := by simp
      rw [← e, this]
      have hi' : i < vs.length := by omega
      simp [List.getD, hi']
    · rw [List.getElem?_eq_none (by simpa using Nat.le_of_not_lt hi), List.getElem?_eq_none (by simp; omega)]
  · obtain ⟨i, hi, rfl⟩ := List.getElem_of_mem hv
    have := r4 i (by omega)
    simpa [List.getD, hi] using this
theorem Ary.set {x : Int32} {i : Nat} (F : Ary Z h a ty vs) (hi : i < vs.length) (hx : fits ty (.int x) = true) (Wq : Wr h h' a (Int32.ofNat i).toNatClampNeg (.int x)) : Ary Z h' a ty (vs.set i x) := by
  obtain ⟨c, A, r1, r2, r3⟩ := F
  refine ⟨c.setSlot (Int32.ofNat i).toNatClampNeg (.int x), A.same Wq, ?_, by simpa using r2, fun v hv => ?_⟩
  · rw [clamp_ofNat (by omega)]
    simp [Cell.setSlot, r1, List.map_set]
  · rcases List.mem_or_eq_of_mem_set hv with q | q
    · exact r3 v q
    · rw [q]; exact hx
theorem Ary.new {k : ClassId} {z : Int32} {n : Nat} (A : Arr Z h a (newA k ty z) ty) (hn : z.toNatClampNeg = n) (hb : n < 2147483648) (hd : defaultValue ty = .int 0) (hf : fits ty (.int 0) = true) : Ary Z h a ty (List.replicate n 0) := by
  refine ⟨_, A, by simp [newA, hn, hd], by simpa using hb, fun v hv => ?_⟩
  rw [(List.mem_replicate.mp hv).2]; exact hf
theorem Ary.ne_ty {ty' : FieldType} {vs' : List Int32} (F : Ary Z h a ty vs) (F' : Ary Z h b ty' vs') (q : ty ≠ ty') : a ≠ b := fun e => by
  subst e
  obtain ⟨c, ⟨A1, ⟨-, k, A2, comp, A3⟩, -⟩, -⟩ := F
  obtain ⟨c', ⟨B1, ⟨-, k', B2, comp', B3⟩, -⟩, -⟩ := F'
  cases A1.symm.trans B1
  cases A2.symm.trans B2
  rw [A3] at B3
  cases B3; exact q rfl
theorem Ary.safe {EL : List (String × Nat)} {vm : Vm} (hal : Z.vm.Alike vm) (F : Ary Z h a ty vs) (q : ty ≠ .byte) : Safe Z EL vm h a := by obtain ⟨c, A, -⟩ := F; exact Safe.arr hal A q
end AryFacts
theorem safe_nil {Z : State} {vm : Vm} {h : Heap} {x : Addr} : Safe Z [] vm h x := fun B => by obtain ⟨p, hp, -⟩ := B; cases hp
/-- where the walk stands: s the invocation's start, vm the tables of its last interning, Z the case's start -/
def W (κ : Cx) (l : Launch) (R : Room) (Z : State) (EL : List (String × Nat)) (own nm : String) (mx : Nat) (rt : Option FieldType) (vm : Vm) (T : State) (h : Heap) (k n : Nat) : Prop :=
  (κ.p.tables.exec = Jvm.exec ∧ κ.c.maxLocals = mx ∧ κ.M.sig.returnType = rt ∧ κ.M.locks = false ∧ κ.M.name = nm ∧ ∃ a0, EW Z a0 EL) ∧
  ∃ (locs : List Loc) (k0 : Nat), Stand κ.p l κ.e R (κ.s.setVm vm) κ.m κ.a κ.b κ.M κ.c T locs k n ∧ T.heap = h ∧ κ.s.Since vm k0 ∧ k0 ≤ h.size ∧ Z.Warmed39 vm ∧ vm.findClass own = some κ.m.cls ∧ Fr Z.heap.size locs ∧ CHr Z EL κ.s.vm κ.s.heap vm h
/-- what an invocation owes at its end -/
def GQ (κ : Cx) (Z : State) (EL : List (String × Nat)) (rm : Room) (Q : Option Value → Heap → (Addr → Prop) → Prop) : Option Value → State → Prop :=
  fun v B => ∃ L, (Q v B.heap (Safe Z EL B.vm B.heap) ∧ Fr Z.heap.size L) ∧ CHr Z EL κ.s.vm κ.s.heap B.vm B.heap ∧ ReturnedEndW κ.s (.returned v) B L rm.cells rm.slots
/-- a contract -/
def Ctr (l : Launch) (Z : State) (EL : List (String × Nat)) (y : MethodName) (bytes : ByteArray) (maxL : Nat) (ret : Option FieldType) (ws : List Jvm.Cond) (rm : Room) (sf : List Addr) (as' : Array Value) (h : Heap) (Q : Option Value → Heap → (Addr → Prop) → Prop) : Prop :=
  MetFree l y (head1 (Jvm.Cond.code y bytes maxL ret :: ws) rm) (fun a U => a = as' ∧ Z.Warmed39 U.vm ∧ U.heap = h ∧ CHv Z EL U.vm h ∧ ∀ x ∈ sf, Safe Z EL U.vm h x) (fun _ _ _ _ _ => True) (fun _ U o U' => ∃ v L, o = .returned v ∧ (Q v U'.heap (Safe Z EL U'.vm U'.heap) ∧ Fr Z.heap.size L) ∧ CHr Z EL U.vm U.heap U'.vm U'.heap ∧ ReturnedEndW U o U' L rm.cells rm.slots)
theorem enter {l : Launch} {Z : State} {EL : List (String × Nat)} {y : MethodName} {bytes : ByteArray} {maxL : Nat} {ret : Option FieldType} {ws : List Jvm.Cond} {rm : Room} {sf : List Addr} {as' : Array Value} {h : Heap} {Q : Option Value → Heap → (Addr → Prop) → Prop} {a0 : Array Value} (hpl : plainName y.cls = true) (hEL : EW Z a0 EL) {Ls : Array Slot} (hef : ∀ m, entryFrame m as' maxL = mkF m 0 Ls [])
    (body : ∀ (κ : Cx) (vm : Vm) (T : State), κ.c.code = bytes → κ.s.heap = h → W κ l rm Z EL y.cls y.name maxL ret vm T h 0 0 → (∀ x ∈ sf, Safe Z EL vm h x) → Go κ (GQ κ Z EL rm Q) T 0 Ls []) : Ctr l Z EL y bytes maxL ret ws rm sf as' h Q := by
  refine MetFree.of_bodySF (plainFor_of_name hpl) hisR ?_
  intro p e s m args below meth c s₁ Bd hml hP hK
  obtain ⟨rfl, hZ, hh, hC, hSf⟩ := hP
  have hown : s.vm.findClass y.cls = some m.cls := findClass_of_methodNamed Bd.named
  have hnm := (name_of_methodNamed Bd.named Bd.method).1
  have X0 : Stand p l e rm s m args below meth c s₁ [] 0 0 := Stand.of_body Bd
  have e0 : s₁.heap = h := by rw [← hh, Bd.state]; rfl
  have w : W (p, e, s, m, args, below, meth, c) l rm Z EL y.cls y.name maxL ret s.vm s₁ h 0 0 :=
    ⟨⟨Bd.exec, hml, Bd.returns, Bd.notSynchronized, hnm, a0, hEL⟩, [], s.heap.size, X0, e0, (State.WarmedH.refl s).since _, by rw [hh]; exact Nat.le_refl _, hZ, hown, Fr.nil _, by rw [hh]; exact CHr.refl hC⟩
  obtain ⟨v, B, h1, h2, h3, L, h4, h5, h6⟩ := body (p, e, s, m, args, below, meth, c) s.vm s₁ Bd.bytes hh w hSf
  refine ⟨B, .returned v, castTop (hef m) h1, h2, h3, v, L, rfl, h4, h5, h6⟩
section Laws
variable {κ : Cx} {l : Launch} {R : Room} {Z : State} {EL : List (String × Nat)} {own nm : String} {mx : Nat} {rt : Option FieldType} {vm : Vm} {T : State} {h : Heap} {k n : Nat} {G : Option Value → State → Prop} {a0 : Array Value} {pc : Nat} {Ls : Array Slot} {st : List Value}
theorem W.ok (w : W κ l R Z EL own nm mx rt vm T h k n) : Ok κ T := by obtain ⟨w1, _, _, X, -⟩ := w; exact ⟨X.here, w1.1⟩
theorem W.chv (w : W κ l R Z EL own nm mx rt vm T h k n) : CHv Z EL vm h := by obtain ⟨w1, _, _, X, -, -, -, -, -, -, C⟩ := w; exact C.1
theorem W.warm (w : W κ l R Z EL own nm mx rt vm T h k n) : Z.Warmed39 vm := by obtain ⟨w1, _, _, X, -, -, -, hZ, -⟩ := w; exact hZ
theorem W.alike (w : W κ l R Z EL own nm mx rt vm T h k n) : Z.vm.Alike vm := w.warm.alike
theorem W.mono (w : W κ l R Z EL own nm mx rt vm T h k n) {k' n' : Nat} (hk : k ≤ k') (hn : n ≤ n') : W κ l R Z EL own nm mx rt vm T h k' n' := by
  obtain ⟨w1, L, k0, X, r⟩ := w; exact ⟨w1, L, k0, X.mono hk hn, r⟩
theorem W.heap (w : W κ l R Z EL own nm mx rt vm T h k n) : T.heap = h := by obtain ⟨w1, _, _, X, e, -⟩ := w; exact e
/-- all that stood at the case's start stands as it was -/
theorem W.old (w : W κ l R Z EL own nm mx rt vm T h k n) (o : Ext Z.heap κ.s.heap) : Ext Z.heap h := by
  obtain ⟨w1, L, k0, X, e, -, -, -, -, N, -⟩ := w
  subst e
  refine ⟨Nat.le_trans o.1 X.same.2.1, fun b cl hb => ?_⟩
  obtain ⟨c', h1, h2, -, h4⟩ := X.same.2.2.2.2.2 b cl (o.2 _ _ hb)
  have hlt := (Array.getElem?_eq_some_iff.mp hb).1
  have hsl : c'.slots = cl.slots := Array.ext_getElem? fun i => h4 i fun hm => absurd (N _ hm) (Nat.not_le.mpr hlt)
  have hcc : c' = cl := by rw [h2, hsl]
  rw [← hcc]; exact h1
/-- a step that keeps vm: the heap only grows -/
theorem W.grow {T' : State} {h' : Heap} {k' n' : Nat} (w : W κ l R Z EL own nm mx rt vm T h k n) (E : Ext h h') (eT : T'.heap = h') (hX : ∀ locs, Stand κ.p l κ.e R (κ.s.setVm vm) κ.m κ.a κ.b κ.M κ.c T locs k n → Stand κ.p l κ.e R (κ.s.setVm vm) κ.m κ.a κ.b κ.M κ.c T' locs k' n') : W κ l R Z EL own nm mx rt vm T' h' k' n' := by
  obtain ⟨w1, L, k0, X, e, hS, hk, hZ, ho, N, C⟩ := w
  exact ⟨w1, L, k0, hX L X, eT, hS, Nat.le_trans hk E.1, hZ, ho, N, C.trans (CHr.ext E C.1)⟩
theorem W.wrote {T' : State} {h' : Heap} {a : Addr} {sl : Nat} {v : Value} {locs : List Loc} {k0 : Nat} (w : W κ l R Z EL own nm mx rt vm T h k n) (hS : κ.s.Since vm k0) (hk : k0 ≤ h.size) (N : Fr Z.heap.size locs) (X : Stand κ.p l κ.e R (κ.s.setVm vm) κ.m κ.a κ.b κ.M κ.c T' (locs ++ [⟨a, sl⟩]) k n) (eT : T'.heap = h') (Wq : Wr h h' a sl v) (S : Safe Z EL vm h a) (ha : Z.heap.size ≤ a) : W κ l R Z EL own nm mx rt vm T' h' k n := by
  obtain ⟨w1, -, -, -, -, -, -, hZ, ho, -, C⟩ := w
  exact ⟨w1, _, k0, X, eT, hS, by rw [Wq.size]; exact hk, hZ, ho, Fr.snoc X N ha, C.trans (CHr.wr Wq S C.1)⟩
theorem W.new (w : W κ l R Z EL own nm mx rt vm T h k n) {C : String} {index sz : Nat} (w1 : (Cond.classLink own index C).before a0 Z = true) (w2 : (Cond.instantiable C sz).before a0 Z = true) (w3 : (Cond.initialized C).before a0 Z = true)
    (hd : decode κ.c.code pc = .ok (.new index, 3)) (hc : k + 1 ≤ R.cells) (hl : n + sz ≤ R.slots)
    (g : ∀ (T' : State) (h' : Heap) (x : Addr), W κ l R Z EL own nm mx rt vm T' h' (k + 1) (n + sz) → x = h.size → Ext h h' → Exa Z h' x C → (∀ {O nm' d : String} {ty : FieldType}, Laid Z a0 C O nm' d → parseFieldDescriptor d = some ty → Fld Z h' x O nm' d (defaultValue ty)) → Safe Z EL vm h' x → Go κ G T' (pc + 3) Ls (.ref x :: st)) : Go κ G T pc Ls st := by
  have w0 := w
  obtain ⟨q1, L, k0, X, e, hS, hk, hZ, ho, N, CC⟩ := w
  obtain ⟨T', h', X', e', E, A, D, -, stp⟩ := newO X q1.1 hZ ho w1 w2 w3 e (g := mkF κ.m pc Ls st) rfl hd hc hl
  exact Fx.via stp (g T' h' h.size ⟨q1, L, k0, X', e', hS, Nat.le_trans hk E.1, hZ, ho, N, CC.trans (CHr.ext E CC.1)⟩ rfl E A D (Safe.ext E w0.chv (Safe.new (Nat.le_refl _))))
theorem W.newarr (w : W κ l R Z EL own nm mx rt vm T h k n) {aty : ArrayType} (w1 : (Cond.arrayClass (newarray.typeOf aty)).before a0 Z = true) {z : Int32} {c : Nat} (hd : decode κ.c.code pc = .ok (.newarray aty, 2)) (hn : ¬ z < 0) (hz : z.toNatClampNeg = c) {cap : Nat} (hcap : c ≤ cap) (hb : cap * 8 ≤ 536870912) (hc : k + 1 ≤ R.cells) (hl : n + cap ≤ R.slots) (hdv : defaultValue (newarray.typeOf aty) = .int 0) (hf : fits (newarray.typeOf aty) (.int 0) = true)
    (g : ∀ (T' : State) (h' : Heap) (x : Addr), W κ l R Z EL own nm mx rt vm T' h' (k + 1) (n + cap) → x = h.size → Ext h h' → Ary Z h' x (newarray.typeOf aty) (List.replicate c 0) → Safe Z EL vm h' x → Go κ G T' (pc + 2) Ls (.ref x :: st)) : Go κ G T pc Ls (.int z :: st) := by
  have w0 := w
  obtain ⟨q1, L, k0, X, e, hS, hk, hZ, ho, N, CC⟩ := w
  obtain ⟨T', h', cA, X', e', E, A, stp⟩ := newP X q1.1 hZ w1 e (g := mkF κ.m pc Ls (.int z :: st)) rfl hd rfl hn (by rw [hz]; exact hcap) hb hc hl
  exact Fx.via stp (g T' h' h.size ⟨q1, L, k0, X', e', hS, Nat.le_trans hk E.1, hZ, ho, N, CC.trans (CHr.ext E CC.1)⟩ rfl E (Ary.new A hz (by omega) hdv hf) (Safe.ext E w0.chv (Safe.new (Nat.le_refl _))))
theorem W.get (w : W κ l R Z EL own nm mx rt vm T h k n) {O f d : String} {index : Nat} (w1 : (Cond.fieldLink own index O f d).before a0 Z = true) {a : Addr} {v : Value} (F : Fld Z h a O f d v) (hd : decode κ.c.code pc = .ok (.getfield index, 3))
    (g : ∀ T' : State, W κ l R Z EL own nm mx rt vm T' h k n → Go κ G T' (pc + 3) Ls (v :: st)) : Go κ G T pc Ls (.ref a :: st) := by
  obtain ⟨q1, L, k0, X, e, hS, hk, hZ, ho, N, CC⟩ := w
  obtain ⟨T', X', e', stp⟩ := getF X q1.1 hZ ho (host := "") (Or.inl w1) Via.refl e F (g := mkF κ.m pc Ls (.ref a :: st)) rfl rfl hd
  exact Fx.via stp (g T' ⟨q1, L, k0, X', e', hS, hk, hZ, ho, N, CC⟩)
theorem W.gets (w : W κ l R Z EL own nm mx rt vm T h k n) {O f d : String} {index : Nat} (w1 : (Cond.fieldLink own index O f d).before a0 Z = true) {v : Value} (F : Sta Z h O f d v) (hd : decode κ.c.code pc = .ok (.getstatic index, 3))
    (g : ∀ T' : State, W κ l R Z EL own nm mx rt vm T' h k n → Go κ G T' (pc + 3) Ls (v :: st)) : Go κ G T pc Ls st := by
  obtain ⟨q1, L, k0, X, e, hS, hk, hZ, ho, N, CC⟩ := w
  obtain ⟨T', X', e', stp⟩ := getS X q1.1 hZ ho (host := "") w1 Via.refl e F (g := mkF κ.m pc Ls st) rfl hd
  exact Fx.via stp (g T' ⟨q1, L, k0, X', e', hS, hk, hZ, ho, N, CC⟩)
theorem W.put (w : W κ l R Z EL own nm mx rt vm T h k n) {O f d C : String} {index kk : Nat} {ty : FieldType} (w1 : (Cond.fieldLink own index O f d).before a0 Z = true) {a : Addr} {v old : Value} (F : Fld Z h a O f d old) (E : Exa Z h a C) (Lw : (Cond.lays C O f d).before a0 Z = true ∨ ((Cond.laysFinal C O f d).before a0 Z = true ∧ own = O ∧ nm = "<init>")) (wi : (Cond.instantiable C kk).before a0 Z = true)
    (hty : parseFieldDescriptor d = some ty) (hn : narrow ty v = v) (hf : fits ty v = true) (S : Safe Z EL vm h a) (ha : Z.heap.size ≤ a) (hd : decode κ.c.code pc = .ok (.putfield index, 3))
    (g : ∀ (T' : State) (h' : Heap), W κ l R Z EL own nm mx rt vm T' h' k n → Wr h h' a (RoadKit.slotOf Z O f d) v → Safe Z EL vm h' a → Go κ G T' (pc + 3) Ls st) : Go κ G T pc Ls (v :: .ref a :: st) := by
  have w0 := w
  obtain ⟨q1, L, k0, X, e, hS, hk, hZ, ho, N, CC⟩ := w
  obtain ⟨T', h', X', e', Wq, stp⟩ := putF X q1.1 hZ ho (host := "") (Or.inl w1) Via.refl e F E (Lw.imp id fun q => ⟨q.1, q.2.1, by rw [q1.2.2.2.2.1]; exact q.2.2⟩) wi hty hn hf (g := mkF κ.m pc Ls (v :: .ref a :: st)) rfl rfl hd
  exact Fx.via stp (g T' h' (w0.wrote hS hk N X' e' Wq S ha) Wq (Safe.wr Wq S w0.chv S))
theorem W.cst (w : W κ l R Z EL own nm mx rt vm T h k n) {a : Addr} {vs : List Int32} (A : Ary Z h a .char vs) {i : Nat} {j x x' : Int32} (hj : j = Int32.ofNat i) (hi : i < vs.length) (hx : nar .char x = x') (hf : fits .char (.int x') = true) (ha : Z.heap.size ≤ a) (hd : decode κ.c.code pc = .ok (.castore, 1))
    (g : ∀ (T' : State) (h' : Heap), W κ l R Z EL own nm mx rt vm T' h' k n → (∃ sl v, Wr h h' a sl v) → Ary Z h' a .char (vs.set i x') → Go κ G T' (pc + 1) Ls st) : Go κ G T pc Ls (.int x :: .int j :: .ref a :: st) := by
  have w0 := w
  have A0 := A
  subst hj hx
  obtain ⟨q1, L, k0, X, e, hS, hk, hZ, ho, N, CC⟩ := w
  obtain ⟨c, A1, r1, r2, -⟩ := A
  obtain ⟨T', h', X', e', Wq, stp⟩ := stC X q1.1 hZ e A1 (Ary.inb r1 r2 hi) (g := mkF κ.m pc Ls (.int x :: .int (Int32.ofNat i) :: .ref a :: st)) rfl rfl hd
  exact Fx.via stp (g T' h' (w0.wrote hS hk N X' e' Wq (A0.safe w0.alike (by decide)) ha) ⟨_, _, Wq⟩ (A0.set hi hf Wq))
theorem W.bst (w : W κ l R Z EL own nm mx rt vm T h k n) {a : Addr} {vs : List Int32} (A : Ary Z h a .byte vs) {i : Nat} {j x x' : Int32} (hj : j = Int32.ofNat i) (hi : i < vs.length) (hx : nar .byte x = x') (hf : fits .byte (.int x') = true) (S : Safe Z EL vm h a) (ha : Z.heap.size ≤ a) (hd : decode κ.c.code pc = .ok (.bastore, 1))
    (g : ∀ (T' : State) (h' : Heap), W κ l R Z EL own nm mx rt vm T' h' k n → (∃ sl v, Wr h h' a sl v) → Ary Z h' a .byte (vs.set i x') → Safe Z EL vm h' a → Go κ G T' (pc + 1) Ls st) : Go κ G T pc Ls (.int x :: .int j :: .ref a :: st) := by
  have w0 := w
  have A0 := A
  subst hj hx
  obtain ⟨q1, L, k0, X, e, hS, hk, hZ, ho, N, CC⟩ := w
  obtain ⟨c, A1, r1, r2, -⟩ := A
  obtain ⟨T', h', X', e', Wq, stp⟩ := stB X q1.1 hZ e A1 (Ary.inb r1 r2 hi) (g := mkF κ.m pc Ls (.int x :: .int (Int32.ofNat i) :: .ref a :: st)) rfl rfl hd
  exact Fx.via stp (g T' h' (w0.wrote hS hk N X' e' Wq S ha) ⟨_, _, Wq⟩ (A0.set hi hf Wq) (Safe.wr Wq S w0.chv S))
theorem W.ist (w : W κ l R Z EL own nm mx rt vm T h k n) {a : Addr} {vs : List Int32} (A : Ary Z h a .int vs) {i : Nat} {j x : Int32} (hj : j = Int32.ofNat i) (hi : i < vs.length) (ha : Z.heap.size ≤ a) (hd : decode κ.c.code pc = .ok (.iastore, 1))
    (g : ∀ (T' : State) (h' : Heap), W κ l R Z EL own nm mx rt vm T' h' k n → (∃ sl v, Wr h h' a sl v) → Ary Z h' a .int (vs.set i x) → Go κ G T' (pc + 1) Ls st) : Go κ G T pc Ls (.int x :: .int j :: .ref a :: st) := by
  have w0 := w
  have A0 := A
  subst hj
  obtain ⟨q1, L, k0, X, e, hS, hk, hZ, ho, N, CC⟩ := w
  obtain ⟨c, A1, r1, r2, -⟩ := A
  obtain ⟨T', h', X', e', Wq, stp⟩ := stI X q1.1 hZ e A1 (Ary.inb r1 r2 hi) (g := mkF κ.m pc Ls (.int x :: .int (Int32.ofNat i) :: .ref a :: st)) rfl rfl hd
  exact Fx.via stp (g T' h' (w0.wrote hS hk N X' e' Wq (A0.safe w0.alike (by decide)) ha) ⟨_, _, Wq⟩ (A0.set hi rfl Wq))
theorem W.len (w : W κ l R Z EL own nm mx rt vm T h k n) {a : Addr} {ty : FieldType} {vs : List Int32} (A : Ary Z h a ty vs) (hd : decode κ.c.code pc = .ok (.arraylength, 1)) (g : Go κ G T (pc + 1) Ls (.int (Int32.ofNat vs.length) :: st)) : Go κ G T pc Ls (.ref a :: st) := by
  obtain ⟨q1, L, k0, X, e, hS, hk, hZ, ho, N, CC⟩ := w
  obtain ⟨c, A1, r1, r2, -⟩ := A
  have hz : c.slots.size = vs.length := by
    have := congrArg List.length r1
    simpa using this
  refine Fx.via (fun t z => X.arraylength q1.1 (cell := c) (by rw [e]; exact A1.1) (State.isArrayOf_alike hZ.alike A1.2.1) (g := mkF κ.m pc Ls (.ref a :: st)) rfl rfl hd t ?_) g
  rw [hz]; exact z
theorem W.cld (w : W κ l R Z EL own nm mx rt vm T h k n) {a : Addr} {vs : List Int32} (A : Ary Z h a .char vs) {i : Nat} {j x : Int32} (hj : j = Int32.ofNat i) (hx : vs[i]? = some x) (hd : decode κ.c.code pc = .ok (.caload, 1)) (g : Go κ G T (pc + 1) Ls (.int x :: st)) : Go κ G T pc Ls (.int j :: .ref a :: st) := by
  subst hj
  obtain ⟨q1, L, k0, X, e, hS, hk, hZ, ho, N, CC⟩ := w
  obtain ⟨c, A1, r1, r2, -⟩ := A
  have hi : i < vs.length := (List.getElem?_eq_some_iff.mp hx).1
  exact Fx.via (fun t z => X.caload q1.1 (cell := c) (by rw [e]; exact A1.1) (State.isArrayOf_alike hZ.alike A1.2.1) A1.2.2 (Ary.inb r1 r2 hi) (Ary.at r1 r2 hi hx) (g := mkF κ.m pc Ls (.int (Int32.ofNat i) :: .ref a :: st)) rfl rfl hd t z) g
theorem W.bld (w : W κ l R Z EL own nm mx rt vm T h k n) {a : Addr} {vs : List Int32} (A : Ary Z h a .byte vs) {i : Nat} {j x : Int32} (hj : j = Int32.ofNat i) (hx : vs[i]? = some x) (hd : decode κ.c.code pc = .ok (.baload, 1)) (g : Go κ G T (pc + 1) Ls (.int x :: st)) : Go κ G T pc Ls (.int j :: .ref a :: st) := by
  subst hj
  obtain ⟨q1, L, k0, X, e, hS, hk, hZ, ho, N, CC⟩ := w
  obtain ⟨c, A1, r1, r2, -⟩ := A
  have hi : i < vs.length := (List.getElem?_eq_some_iff.mp hx).1
  exact Fx.via (fun t z => X.baloadBytes q1.1 (cell := c) (by rw [e]; exact A1.1) (State.isArrayOf_alike hZ.alike A1.2.1) A1.2.2 (Ary.inb r1 r2 hi) (Ary.at r1 r2 hi hx) (g := mkF κ.m pc Ls (.int (Int32.ofNat i) :: .ref a :: st)) rfl rfl hd t z) g
theorem W.ild (w : W κ l R Z EL own nm mx rt vm T h k n) {a : Addr} {vs : List Int32} (A : Ary Z h a .int vs) {i : Nat} {j x : Int32} (hj : j = Int32.ofNat i) (hx : vs[i]? = some x) (hd : decode κ.c.code pc = .ok (.iaload, 1)) (g : Go κ G T (pc + 1) Ls (.int x :: st)) : Go κ G T pc Ls (.int j :: .ref a :: st) := by
  subst hj
  obtain ⟨q1, L, k0, X, e, hS, hk, hZ, ho, N, CC⟩ := w
  obtain ⟨c, A1, r1, r2, -⟩ := A
  have hi : i < vs.length := (List.getElem?_eq_some_iff.mp hx).1
  exact Fx.via (fun t z => X.iaload q1.1 (cell := c) (by rw [e]; exact A1.1) (State.isArrayOf_alike hZ.alike A1.2.1) A1.2.2 (Ary.inb r1 r2 hi) (Ary.at r1 r2 hi hx) (g := mkF κ.m pc Ls (.int (Int32.ofNat i) :: .ref a :: st)) rfl rfl hd t z) g
theorem W.ldcI (w : W κ l R Z EL own nm mx rt vm T h k n) {index : Nat} {v : Int32} (w1 : (Cond.constant own index v).before a0 Z = true) (hd : decode κ.c.code pc = .ok (.ldc index, 2)) (g : Go κ G T (pc + 2) Ls (.int v :: st)) : Go κ G T pc Ls st := by
  obtain ⟨q1, L, k0, X, e, hS, hk, hZ, ho, N, CC⟩ := w
  exact Fx.via (fun t z => Stand.ldcI X q1.1 ho (mv (s := κ.s.setVm vm) hZ w1) (g := mkF κ.m pc Ls st) rfl hd z) g
theorem W.ldcO (w : W κ l R Z EL own nm mx rt vm T h k n) {text : String} {index : Nat} (w1 : (Cond.stringLink own index text).before a0 Z = true) (wS : ∀ a ∈ Bundle.stringAtoms, a.before a0 Z = true) (hEL : EW Z a0 EL) (hd : decode κ.c.code pc = .ok (.ldc index, 2)) {c : Nat} (hn : 4 * text.toList.length ≤ c) (hbig : c ≤ 536870912) (hc : k + 2 ≤ R.cells) (hl : n + (c + 4) ≤ R.slots)
    (g : ∀ (vm' : Vm) (T' : State) (h' : Heap) (a : Addr), W κ l R Z EL own nm mx rt vm' T' h' (k + 2) (n + (c + 4)) → Ext h h' → CHr Z EL vm h vm' h' → Go κ G T' (pc + 2) Ls (.ref a :: st)) : Go κ G T pc Ls st := by
  obtain ⟨q1, L, k0, X, e, hS, hk, hZ, ho, N, CC⟩ := w
  obtain ⟨a, T', h', k1, X', e', E, hS', hk', hW, hf, C', -, stp⟩ := ldcOH X q1.1 hZ ho w1 wS e hS hk hEL CC.1 (g := mkF κ.m pc Ls st) rfl hd hn hbig hc hl
  exact Fx.via stp (g T'.vm T' h' a ⟨q1, L, k1, X', e', hS', hk', hW, hf, N, CC.trans C'⟩ E C')
theorem W.ldcC (w : W κ l R Z EL own nm mx rt vm T h k n) {text : String} {index : Nat} (w1 : (Cond.stringLink own index text).before a0 Z = true) (wS : ∀ a ∈ Bundle.stringAtoms, a.before a0 Z = true) (hEL : EW Z a0 EL) (hmem : (own, index) ∈ EL) {vs : List Int32} (ht : (∀ c ∈ text.toList, c.toNat < 256) ∧ text.toList.map (fun c => Value.int (Jvm.Lit.byteI c.toNat.toUInt16)) = vs.map Value.int) (hlen : vs.length < 2147483648) (hd : decode κ.c.code pc = .ok (.ldc index, 2)) {c : Nat} (hn : 4 * text.toList.length ≤ c) (hbig : c ≤ 536870912) (hc : k + 2 ≤ R.cells) (hl : n + (c + 4) ≤ R.slots)
    (g : ∀ (vm' : Vm) (T' : State) (h' : Heap) (a b : Addr), W κ l R Z EL own nm mx rt vm' T' h' (k + 2) (n + (c + 4)) → Ext h h' → CHr Z EL vm h vm' h' → Exa Z h' a "java/lang/String" → Fld Z h' a "java/lang/String" "coder" "B" (.int 0) → Fld Z h' a "java/lang/String" "value" "[B" (.ref b) → Ary Z h' b .byte vs → (∀ x, Safe Z EL vm' h' x → x ≠ a ∧ x ≠ b) → Go κ G T' (pc + 2) Ls (.ref a :: st)) : Go κ G T pc Ls st := by
  obtain ⟨q1, L, k0, X, e, hS, hk, hZ, ho, N, CC⟩ := w
  obtain ⟨a, T', h', k1, b, kk, X', e', E, hS', hk', hW, hf, F1, F2, F3, F4, -, -, C', -, F5, stp⟩ := ldcCH X q1.1 hZ ho w1 wS e hS hk hEL hmem CC.1 ht (z := Int32.ofNat vs.length) (nneg_ofNat hlen) (by rw [clamp_ofNat hlen]; simp) (g := mkF κ.m pc Ls st) rfl hd hn hbig hc hl
  exact Fx.via stp (g T'.vm T' h' a b ⟨q1, L, k1, X', e', hS', hk', hW, hf, N, CC.trans C'⟩ E C' F1 F2 F3 (Ary.of_arv (by rw [clamp_ofNat hlen]) F4) F5)
theorem W.initO (w : W κ l R Z EL own nm mx rt vm T h k n) {idx : Nat} (w1 : (Cond.methodLink own idx Lib.objectInit).before a0 Z = true) (w2 : (Cond.instanceMethod Lib.objectInit).before a0 Z = true) (w3 : (Cond.code Lib.objectInit ⟨#[0xb1]⟩ 1 none).before a0 Z = true) {a : Addr} (hsz : Ls.size = mx) (hd : decode κ.c.code pc = .ok (.invokespecial idx, 3)) (hf : 1 ≤ R.frames) {Wd : Nat} (hW : (st.map fun v => v.category).sum ≤ Wd) (hl : Wd + 12 ≤ R.locals)
    (g : ∀ T' : State, W κ l R Z EL own nm mx rt vm T' h k n → Go κ G T' (pc + 3) Ls st) : Go κ G T pc Ls (.ref a :: st) := by
  obtain ⟨q1, L, k0, X, e, hS, hk, hZ, ho, N, CC⟩ := w
  obtain ⟨T', X', e', stp⟩ := RoadKit.initO X q1.1 hZ ho w1 w2 w3 e (g := mkF κ.m pc Ls (.ref a :: st)) rfl (by rw [q1.2.1]; exact hsz) rfl hd hf (W := Wd) (by show 2 * 0 + _ ≤ _; omega) hl
  exact Fx.via stp (g T' ⟨q1, L, k0, X', e', hS, hk, hZ, ho, N, CC⟩)
/-- what a call asks of its callee -/
abbrev BB (κ : Cx) (l : Launch) (R : Room) (Z : State) (EL : List (String × Nat)) (vm : Vm) (h : Heap) (y : MethodName) (len Wd : Nat) (as' : Array Value) (rc rs : Nat) (Q : Option Value → Heap → (Addr → Prop) → Prop) : Prop :=
  BackS l R κ.p κ.e κ.b (κ.s.setVm vm) κ.a y len Wd (fun A a => a = as' ∧ A.U.heap = h ∧ A.cells + rc ≤ R.cells ∧ A.slots + rs ≤ R.slots)
      (fun A _ v B => ∃ L, (Q v B.U.heap (Safe Z EL B.U.vm B.U.heap) ∧ Fr Z.heap.size L) ∧ B.locs = A.locs ++ L ∧ B.cells = A.cells + rc ∧ B.slots = A.slots + rs ∧ CHr Z EL vm h B.U.vm B.U.heap)
theorem Ctr.pays {y : MethodName} {bytes : ByteArray} {maxL : Nat} {ret : Option FieldType} {rm : Room} {sf : List Addr} {as' : Array Value} {Q : Option Value → Heap → (Addr → Prop) → Prop} {len Wd : Nat} (C : Ctr l Z EL y bytes maxL ret [] rm sf as' h Q) (w : W κ l R Z EL own nm mx rt vm T h k n)
    (wc : (Cond.code y bytes maxL ret).before a0 Z = true) (wz : (Cond.initialized y.cls).before a0 Z = true) (hEL : EW Z a0 EL) (hf : rm.frames + 1 ≤ R.frames) (hl : Wd + (maxL + 11) + rm.locals ≤ R.locals) (hsf : ∀ x ∈ sf, x < h.size ∧ Safe Z EL vm h x) : BB κ l R Z EL vm h y len Wd as' rm.cells rm.slots Q :=
  BackS.of_freeW (bytes := bytes) (maxL := maxL) (ret := ret) (E := fun _ first o t L k n => k = rm.cells ∧ n = rm.slots ∧ (∃ v, o = .returned v ∧ (Q v t.heap (Safe Z EL t.vm t.heap) ∧ Fr Z.heap.size L)) ∧ CHr Z EL first.vm first.heap t.vm t.heap) C hf hl
    (fun m meth c A a Y hp => have hU : Z.Warmed39 A.U.vm := wtrans (s := κ.s.setVm vm) w.warm Y.warmed
      ⟨by show (Cond.and _ .tt).before a A.U = true; rw [Cond.before_and, mv hU wc]; rfl, mv hU wc, mv hU wz, hp.2.2.1, hp.2.2.2⟩)
    (fun m meth c A a g mk Y hp => ⟨hp.1, wtrans (s := κ.s.setVm vm) w.warm Y.warmed, hp.2.1, (CHv.at Y w.warm hEL w.chv).1, fun x hx => (CHv.at Y w.warm hEL w.chv).safe (hsf x hx).1 (hsf x hx).2⟩) (fun _ _ _ _ _ _ _ _ _ => trivial)
    (fun _ _ _ _ ⟨v, L, h1, h2, h3, h4⟩ => ⟨L, _, _, h4, rfl, rfl, ⟨v, h1, h2⟩, h3⟩)
    (fun m meth c A a g mk v t L k n Y hp _ _ ⟨e1, e2, ⟨v', e3, e4⟩, e5⟩ => by
      cases e3; subst e1 e2
      refine ⟨L, e4, rfl, rfl, rfl, (CHv.at Y w.warm hEL w.chv).trans ?_⟩
      rw [← hp.2.1]; exact e5)
theorem sfNil {vm : Vm} {h : Heap} : ∀ x ∈ ([] : List Addr), x < h.size ∧ Safe Z EL vm h x := fun _ q => nomatch q
theorem sfOne {vm : Vm} {h : Heap} {a : Addr} (h1 : a < h.size) (h2 : Safe Z EL vm h a) : ∀ x ∈ [a], x < h.size ∧ Safe Z EL vm h x := fun x q => by rw [List.mem_singleton.mp q]; exact ⟨h1, h2⟩
/-- a narrow payer (it interns nothing, and writes at most ws of what was there) -/
theorem BB.of_back {y : MethodName} {len Wd : Nat} {as' : Array Value} {rc rs : Nat} {Q0 : Option Value → Heap → List Loc → Prop} {Q : Option Value → Heap → (Addr → Prop) → Prop} (w : W κ l R Z EL own nm mx rt vm T h k n) (hEL : EW Z a0 EL)
    (hB : Back l R κ.p κ.e κ.b (κ.s.setVm vm) κ.a y len Wd (fun A a => a = as' ∧ A.U.heap = h ∧ A.cells + rc ≤ R.cells ∧ A.slots + rs ≤ R.slots) (fun A _ v B => ∃ L, Q0 v B.U.heap L ∧ B.locs = A.locs ++ L ∧ B.cells = A.cells + rc ∧ B.slots = A.slots + rs)) {ws : List Addr} (hs : ∀ x ∈ ws, Safe Z EL vm h x)
    (hQ : ∀ v h' L S, Q0 v h' L → Q v h' S ∧ Fr Z.heap.size L ∧ Keep h h' ws) : BB κ l R Z EL vm h y len Wd as' rc rs Q := by
  intro m meth c A g ig mk a X hg hsize hdg hW hn hp
  obtain ⟨v, B, X', ⟨L, h1, h2, h3, h4⟩, hsteps⟩ := hB m meth c A g ig mk a X hg hsize hdg hW hn hp
  obtain ⟨q1, q2, q3⟩ := hQ v B.U.heap L (Safe Z EL B.U.vm B.U.heap) h1
  refine ⟨v, B, X'.retabled X'.warmed.wide, X'.warmed.since _, by rw [hp.2.1]; exact q3.1, ⟨L, ⟨q1, q2⟩, h2, h3, h4, ?_⟩, hsteps⟩
  exact (CHr.keep q3 hs w.chv).trans (CHv.at X' w.warm hEL (w.chv.keep q3 hs))
theorem W.back (w : W κ l R Z EL own nm mx rt vm T h k n) {T' : State} {locs L : List Loc} {k' n' : Nat} (hk0 : ∃ k0, κ.s.Since vm k0 ∧ k0 ≤ h.size) (N : Fr Z.heap.size locs) (X' : Stand κ.p l κ.e R ((κ.s.setVm vm).setVm T'.vm) κ.m κ.a κ.b κ.M κ.c T' (locs ++ L) k' n') (hS : (κ.s.setVm vm).Since T'.vm T'.heap.size) (hgr : h.size ≤ T'.heap.size) (NL : Fr Z.heap.size L) (C : CHr Z EL vm h T'.vm T'.heap) : W κ l R Z EL own nm mx rt T'.vm T' T'.heap k' n' := by
  obtain ⟨w1, -, -, -, -, -, -, hZ, ho, -, CC⟩ := w
  obtain ⟨k0, hS0, hk⟩ := hk0
  obtain ⟨Y, hS', hZ', ho'⟩ := rebS (own := own) hS0 hk X' hS hgr hZ ho
  exact ⟨w1, _, _, Y, rfl, hS', Nat.le_refl _, hZ', ho', N.app NL, CC.trans C⟩
theorem W.callS (w : W κ l R Z EL own nm mx rt vm T h k n) {y : MethodName} {bytes : ByteArray} {maxL : Nat} {ret : Option FieldType} {index : Nat} (w1 : (Cond.methodLink own index y).before a0 Z = true) (w2 : (Cond.static y).before a0 Z = true) (w3 : (Cond.initialized y.cls).before a0 Z = true) (w4 : (Cond.code y bytes maxL ret).before a0 Z = true) (hy : y.cls ≠ "java/lang/invoke/MethodHandle" ∧ y.cls ≠ "java/lang/invoke/VarHandle")
    {argsL : List Value} {rc rs Wd : Nat} {Q : Option Value → Heap → (Addr → Prop) → Prop} (hK : BB κ l R Z EL vm h y 3 Wd argsL.toArray rc rs Q) {ps : List FieldType} {r0 : Option FieldType} (hde : parseMethodDescriptor y.desc = some ⟨ps, r0⟩) (hlen : argsL.length = ps.length) {st0 : List Value} (hst : st0 = argsL.reverse ++ st) (hsz : Ls.size = mx) (hW : (st.map fun v => v.category).sum ≤ Wd) (hd : decode κ.c.code pc = .ok (.invokestatic index, 3)) (hc : k + rc ≤ R.cells) (hl : n + rs ≤ R.slots)
    (g : ∀ (vm' : Vm) (T' : State) (h' : Heap) (v : Option Value), W κ l R Z EL own nm mx rt vm' T' h' (k + rc) (n + rs) → CHr Z EL vm h vm' h' → Q v h' (Safe Z EL vm' h') → Go κ G T' (pc + 3) Ls (v.toList ++ st)) : Go κ G T pc Ls st0 := by
  have w0 := w
  subst hst
  obtain ⟨q1, L, k0, X, e, hS, hk, hZ, ho, N, CC⟩ := w
  obtain ⟨v, vm₁, ⟨T', L', k', n'⟩, -, X', hS', hgr, ⟨L2, ⟨hQ, NL⟩, p1, p2, p3, p4⟩, stp⟩ := callSS X q1.1 ho (mvT (s := κ.s.setVm vm) hZ w1) (mvT (s := κ.s.setVm vm) hZ w2) (mvT (s := κ.s.setVm vm) hZ w3) (mvT (s := κ.s.setVm vm) hZ w4) hy hK (g := mkF κ.m pc Ls (argsL.reverse ++ st)) rfl (by rw [q1.2.1]; exact hsz) (argsL := argsL) (rest := st) (lenOf hde hlen) rfl (by show 2 * 0 + _ ≤ _; omega) hd (fun _ _ => ⟨rfl, e, hc, hl⟩)
  dsimp only [Pt.U, Pt.locs, Pt.cells, Pt.slots] at X' hS' hgr hQ p1 p2 p3 p4 stp
  subst p1 p2 p3
  exact Fx.after stp (g T'.vm T' T'.heap v (w0.back ⟨k0, hS, hk⟩ N X' hS' (by rw [← e]; exact hgr) NL p4) p4 hQ)
theorem W.callI (w : W κ l R Z EL own nm mx rt vm T h k n) {y : MethodName} {bytes : ByteArray} {maxL : Nat} {index : Nat} (hy1 : y.name = "<init>") (w1 : (Cond.methodLink own index y).before a0 Z = true) (w2 : (Cond.instanceMethod y).before a0 Z = true) (w4 : (Cond.code y bytes maxL none).before a0 Z = true) (hy : y.cls ≠ "java/lang/invoke/MethodHandle" ∧ y.cls ≠ "java/lang/invoke/VarHandle")
    {a : Addr} {argsL : List Value} {rc rs Wd : Nat} {Q : Option Value → Heap → (Addr → Prop) → Prop} (hK : BB κ l R Z EL vm h y 3 Wd (.ref a :: argsL).toArray rc rs Q) {ps : List FieldType} {r0 : Option FieldType} (hde : parseMethodDescriptor y.desc = some ⟨ps, r0⟩) (hlen : argsL.length = ps.length) {st0 : List Value} (hst : st0 = argsL.reverse ++ .ref a :: st) (hsz : Ls.size = mx) (hW : (st.map fun v => v.category).sum ≤ Wd) (hd : decode κ.c.code pc = .ok (.invokespecial index, 3)) (hc : k + rc ≤ R.cells) (hl : n + rs ≤ R.slots)
    (g : ∀ (vm' : Vm) (T' : State) (h' : Heap) (v : Option Value), W κ l R Z EL own nm mx rt vm' T' h' (k + rc) (n + rs) → CHr Z EL vm h vm' h' → Q v h' (Safe Z EL vm' h') → Go κ G T' (pc + 3) Ls (v.toList ++ st)) : Go κ G T pc Ls st0 := by
  have w0 := w
  subst hst
  obtain ⟨q1, L, k0, X, e, hS, hk, hZ, ho, N, CC⟩ := w
  obtain ⟨v, vm₁, ⟨T', L', k', n'⟩, -, X', hS', hgr, ⟨L2, ⟨hQ, NL⟩, p1, p2, p3, p4⟩, stp⟩ := X.specialBackS q1.1 hy1 ho (mvT (s := κ.s.setVm vm) hZ w1) (mvT (s := κ.s.setVm vm) hZ w2) (mvT (s := κ.s.setVm vm) hZ w4) hy hK (g := mkF κ.m pc Ls (argsL.reverse ++ .ref a :: st)) rfl (by rw [q1.2.1]; exact hsz) (Steps.refl _) (a := a) (argsL := argsL) (rest := st) (lenOf hde hlen) rfl (by show 2 * 0 + _ ≤ _; omega) hd (fun _ _ => ⟨rfl, e, hc, hl⟩)
  dsimp only [Pt.U, Pt.locs, Pt.cells, Pt.slots] at X' hS' hgr hQ p1 p2 p3 p4 stp
  subst p1 p2 p3
  exact Fx.after stp (g T'.vm T' T'.heap v (w0.back ⟨k0, hS, hk⟩ N X' hS' (by rw [← e]; exact hgr) NL p4) p4 hQ)
theorem W.callV (w : W κ l R Z EL own nm mx rt vm T h k n) {y z : MethodName} {C : String} {index : Nat} (w1 : (Cond.methodLink own index y).before a0 Z = true) (w2 : (Cond.declares y).before a0 Z = true) (hnf : ∀ s : State, Z.Warmed39 s.vm → NotFace s y) (w3 : (Cond.selects C y z).before a0 Z = true) (w4 : (Cond.instanceMethod z).before a0 Z = true) (hy : y.cls ≠ "java/lang/invoke/MethodHandle" ∧ y.cls ≠ "java/lang/invoke/VarHandle")
    {a : Addr} (E : Exa Z h a C) {argsL : List Value} {rc rs Wd : Nat} {Q : Option Value → Heap → (Addr → Prop) → Prop} (hK : BB κ l R Z EL vm h z 3 Wd (.ref a :: argsL).toArray rc rs Q) {ps : List FieldType} {r0 : Option FieldType} (hde : parseMethodDescriptor y.desc = some ⟨ps, r0⟩) (hlen : argsL.length = ps.length) {st0 : List Value} (hst : st0 = argsL.reverse ++ .ref a :: st) (hsz : Ls.size = mx) (hW : (st.map fun v => v.category).sum ≤ Wd) (hd : decode κ.c.code pc = .ok (.invokevirtual index, 3)) (hc : k + rc ≤ R.cells) (hl : n + rs ≤ R.slots)
    (g : ∀ (vm' : Vm) (T' : State) (h' : Heap) (v : Option Value), W κ l R Z EL own nm mx rt vm' T' h' (k + rc) (n + rs) → CHr Z EL vm h vm' h' → Q v h' (Safe Z EL vm' h') → Go κ G T' (pc + 3) Ls (v.toList ++ st)) : Go κ G T pc Ls st0 := by
  have w0 := w
  subst hst
  obtain ⟨q1, L, k0, X, e, hS, hk, hZ, ho, N, CC⟩ := w
  obtain ⟨cB, kB, i1, i2, i3⟩ := isOf (s := κ.s.setVm vm) hZ e E
  obtain ⟨v, vm₁, ⟨T', L', k', n'⟩, -, X', hS', hgr, ⟨L2, ⟨hQ, NL⟩, p1, p2, p3, p4⟩, stp⟩ := X.virtualBackS q1.1 ho (mvT (s := κ.s.setVm vm) hZ w1) (mvT (s := κ.s.setVm vm) hZ w2) (hnf (κ.s.setVm vm) hZ) (mvT (s := κ.s.setVm vm) hZ w3) (mvT (s := κ.s.setVm vm) hZ w4) hy hK i1 i3 (g := mkF κ.m pc Ls (argsL.reverse ++ .ref a :: st)) rfl (by rw [q1.2.1]; exact hsz) (Steps.refl _) (argsL := argsL) (rest := st) (lenOf hde hlen) rfl (by show 2 * 0 + _ ≤ _; omega) hd (fun _ _ => ⟨rfl, e, hc, hl⟩)
  dsimp only [Pt.U, Pt.locs, Pt.cells, Pt.slots] at X' hS' hgr hQ p1 p2 p3 p4 stp
  subst p1 p2 p3
  exact Fx.after stp (g T'.vm T' T'.heap v (w0.back ⟨k0, hS, hk⟩ N X' hS' (by rw [← e]; exact hgr) NL p4) p4 hQ)
theorem notFace {y : MethodName} {C : String} (w3 : (Cond.selects C y y).before a0 Z = true) : ∀ s : State, Z.Warmed39 s.vm → NotFace s y := fun s hZ => notFace_of_selects (args := #[]) (mvT hZ w3)
theorem W.instY (w : W κ l R Z EL own nm mx rt vm T h k n) {K : String} {index : Nat} (w1 : (Cond.classLink own index K).before a0 Z = true) {a : Addr} (F : Ins Z h a K true) (hd : decode κ.c.code pc = .ok (.instanceof index, 3))
    (g : ∀ T' : State, W κ l R Z EL own nm mx rt vm T' h k n → Go κ G T' (pc + 3) Ls (.int 1 :: st)) : Go κ G T pc Ls (.ref a :: st) := by
  obtain ⟨q1, L, k0, X, e, hS, hk, hZ, ho, N, CC⟩ := w
  obtain ⟨T', X', e', stp⟩ := RoadKit.instY X q1.1 hZ ho w1 e F (g := mkF κ.m pc Ls (.ref a :: st)) rfl rfl hd
  exact Fx.via stp (g T' ⟨q1, L, k0, X', e', hS, hk, hZ, ho, N, CC⟩)
theorem W.castY (w : W κ l R Z EL own nm mx rt vm T h k n) {K : String} {index : Nat} (w1 : (Cond.classLink own index K).before a0 Z = true) {a : Addr} (F : Ins Z h a K true) (hd : decode κ.c.code pc = .ok (.checkcast index, 3))
    (g : ∀ T' : State, W κ l R Z EL own nm mx rt vm T' h k n → Go κ G T' (pc + 3) Ls (.ref a :: st)) : Go κ G T pc Ls (.ref a :: st) := by
  obtain ⟨q1, L, k0, X, e, hS, hk, hZ, ho, N, CC⟩ := w
  obtain ⟨T', X', e', stp⟩ := RoadKit.castY X q1.1 hZ ho w1 e F (g := mkF κ.m pc Ls (.ref a :: st)) rfl rfl hd
  exact Fx.via stp (g T' ⟨q1, L, k0, X', e', hS, hk, hZ, ho, N, CC⟩)
theorem W.acmp (w : W κ l R Z EL own nm mx rt vm T h k n) {o : Int} {pc' : Nat} {a b : Addr} (hd : decode κ.c.code pc = .ok (.if_acmp .ne o, 3)) (ho : 0 ≤ (pc : Int) + o) (hp : ((pc : Int) + o).toNat = pc') (hT : ¬ a = b → Go κ G T pc' Ls st) (hF : a = b → Go κ G T (pc + 3) Ls st) : Go κ G T pc Ls (.ref b :: .ref a :: st) := by
  obtain ⟨q1, L, k0, X, e, hS, hk, hZ, ho', N, CC⟩ := w
  by_cases q : a = b
  · exact Fx.via (fun t z => RoadKit.acmp X q1.1 rfl (cd := .ne) (x := .ref a) (y := .ref b) rfl rfl (same := true) rfl hd rfl (by simp [q]) ho (pc' := pc + 3) (by simp [acV]) z) (hF q)
  · exact Fx.via (fun t z => RoadKit.acmp X q1.1 rfl (cd := .ne) (x := .ref a) (y := .ref b) rfl rfl (same := false) rfl hd rfl (by simp [q]) ho (pc' := pc') (by simp [acV, hp]) z) (hT q)
theorem W.acmpE (w : W κ l R Z EL own nm mx rt vm T h k n) {o : Int} {pc' : Nat} {a b : Addr} (hd : decode κ.c.code pc = .ok (.if_acmp .eq o, 3)) (ho : 0 ≤ (pc : Int) + o) (hp : ((pc : Int) + o).toNat = pc') (hT : a = b → Go κ G T pc' Ls st) (hF : ¬ a = b → Go κ G T (pc + 3) Ls st) : Go κ G T pc Ls (.ref b :: .ref a :: st) := by
  obtain ⟨q1, L, k0, X, e, hS, hk, hZ, ho', N, CC⟩ := w
  by_cases q : a = b
  · exact Fx.via (fun t z => RoadKit.acmp X q1.1 rfl (cd := .eq) (x := .ref a) (y := .ref b) rfl rfl (same := true) rfl hd rfl (by simp [q]) ho (pc' := pc') (by simp [acV, hp]) z) (hT q)
  · exact Fx.via (fun t z => RoadKit.acmp X q1.1 rfl (cd := .eq) (x := .ref a) (y := .ref b) rfl rfl (same := false) rfl hd rfl (by simp [q]) ho (pc' := pc + 3) (by simp [acV]) z) (hF q)
/-- invokevirtual of a private method -/
theorem W.callP (w : W κ l R Z EL own nm mx rt vm T h k n) {y : MethodName} {bytes : ByteArray} {maxL : Nat} {ret : Option FieldType} {index : Nat} (w1 : (Cond.methodLink own index y).before a0 Z = true) (w2 : (Cond.instanceMethod y).before a0 Z = true) (hnf : ∀ s : State, Z.Warmed39 s.vm → NotFace s y) (w5 : (Cond.privateMethod y).before a0 Z = true) (w4 : (Cond.code y bytes maxL ret).before a0 Z = true) (hy : y.cls ≠ "java/lang/invoke/MethodHandle" ∧ y.cls ≠ "java/lang/invoke/VarHandle")
    {a : Addr} {C : String} (E : Exa Z h a C) {argsL : List Value} {rc rs Wd : Nat} {Q : Option Value → Heap → (Addr → Prop) → Prop} (hK : BB κ l R Z EL vm h y 3 Wd (.ref a :: argsL).toArray rc rs Q) {ps : List FieldType} {r0 : Option FieldType} (hde : parseMethodDescriptor y.desc = some ⟨ps, r0⟩) (hlen : argsL.length = ps.length) {st0 : List Value} (hst : st0 = argsL.reverse ++ .ref a :: st) (hsz : Ls.size = mx) (hW : (st.map fun v => v.category).sum ≤ Wd) (hd : decode κ.c.code pc = .ok (.invokevirtual index, 3)) (hc : k + rc ≤ R.cells) (hl : n + rs ≤ R.slots)
    (g : ∀ (vm' : Vm) (T' : State) (h' : Heap) (v : Option Value), W κ l R Z EL own nm mx rt vm' T' h' (k + rc) (n + rs) → CHr Z EL vm h vm' h' → Q v h' (Safe Z EL vm' h') → Go κ G T' (pc + 3) Ls (v.toList ++ st)) : Go κ G T pc Ls st0 := by
  have w0 := w
  subst hst
  obtain ⟨q1, L, k0, X, e, hS, hk, hZ, ho, N, CC⟩ := w
  obtain ⟨cell, hcell, hob⟩ := E.cell
  have hinst : (Cond.instanceMethod y).before κ.a (κ.s.setVm vm) = true := mvT (s := κ.s.setVm vm) hZ w2
  have hcode : (Cond.code y bytes maxL ret).before κ.a (κ.s.setVm vm) = true := mvT (s := κ.s.setVm vm) hZ w4
  obtain ⟨mk, methM, hnamed, hmethM, hstM, habM⟩ := Cond.instanceMethod_spec hinst
  obtain ⟨methM', cM, hmethM', -, -, -, -, -, -, hsigM⟩ := Cond.code_spec hnamed hcode
  cases hmethM.symm.trans hmethM'
  obtain ⟨kP, hkP, hkPi⟩ := hnf (κ.s.setVm vm) hZ mk hnamed
  have hselP : selectMethod κ.e.platform (κ.s.setVm vm).vm cell.cls mk = .method mk := selectMethod_private hmethM (Cond.privateMethod_at (args := #[]) (mvP (s := κ.s.setVm vm) hZ w5) mk methM hnamed hmethM)
  obtain ⟨vm₁, X₁, hstep₁⟩ := X.invokevirtual q1.1 ho (mvT (s := κ.s.setVm vm) hZ w1) hnamed hmethM hstM hkP hkPi hy (a := a) (cell := cell) (by rw [e]; exact hcell) hob hselP hmethM habM hkP hkPi (g := mkF κ.m pc Ls (argsL.reverse ++ .ref a :: st)) rfl (argsL := argsL) (rest := st) (lenOf hde hlen _ hsigM) rfl hd
  obtain ⟨v, ⟨T', L', k', n'⟩, X', hS', hgr, ⟨L2, ⟨hQ, NL⟩, p1, p2, p3, p4⟩, hsteps⟩ := hK κ.m κ.M κ.c ⟨T.setVm vm₁, L, k, n⟩ (mkF κ.m pc Ls st) (.invokevirtual index) mk (.ref a :: argsL).toArray X₁ rfl (by show Ls.size = _; rw [q1.2.1]; exact hsz) hd (by show 2 * 0 + (st.map fun v => v.category).sum ≤ _; omega) (X₁.named hnamed) ⟨rfl, e, hc, hl⟩
  dsimp only [Pt.U, Pt.locs, Pt.cells, Pt.slots] at X' hS' hgr hQ p1 p2 p3 p4 hsteps
  subst p1 p2 p3
  have stp := (hstep₁ _ fun acts => by rw [doInvoke_state]; exact Steps.refl _).trans hsteps
  exact Fx.after stp (g T'.vm T' T'.heap v (w0.back ⟨k0, hS, hk⟩ N X' hS' (by rw [← e]; exact hgr) NL p4) p4 hQ)
theorem notFaceAs {y y' : MethodName} {C : String} (hc : y.cls = y'.cls) (w3 : (Cond.selects C y' y').before a0 Z = true) (w4 : (Cond.instanceMethod y').before a0 Z = true) : ∀ s : State, Z.Warmed39 s.vm → NotFace s y := fun s hZ r0 h0 => by
  have hi : (Cond.instanceMethod y').before #[] s = true := mvT hZ w4
  obtain ⟨mk, methM, hnamed, -⟩ := Cond.instanceMethod_spec hi
  obtain ⟨kr, h1, h2⟩ := notFace (a0 := a0) w3 s hZ mk hnamed
  have e1 := findClass_of_methodNamed h0
  have e2 := findClass_of_methodNamed hnamed
  rw [hc] at e1
  have e3 := Option.some.inj (e1.symm.trans e2)
  exact ⟨kr, by rw [e3]; exact h1, h2⟩
/-- invokevirtual of a method that a superclass declares -/
theorem W.callUp (w : W κ l R Z EL own nm mx rt vm T h k n) {y z : MethodName} {C owner : String} {index : Nat} (w1 : (Cond.methodLink own index y).before a0 Z = true) (w2 : (Cond.sameMethod y.cls owner y.name y.desc).before a0 Z = true) (w3 : (Cond.declares ⟨owner, y.name, y.desc⟩).before a0 Z = true) (hy : owner ≠ "java/lang/invoke/MethodHandle" ∧ owner ≠ "java/lang/invoke/VarHandle") (w4 : (Cond.selects C y z).before a0 Z = true) (w5 : (Cond.instanceMethod z).before a0 Z = true)
    {a : Addr} (E : Exa Z h a C) {argsL : List Value} {rc rs Wd : Nat} {Q : Option Value → Heap → (Addr → Prop) → Prop} (hK : BB κ l R Z EL vm h z 3 Wd (.ref a :: argsL).toArray rc rs Q) {ps : List FieldType} {r0 : Option FieldType} (hde : parseMethodDescriptor y.desc = some ⟨ps, r0⟩) (hlen : argsL.length = ps.length) {st0 : List Value} (hst : st0 = argsL.reverse ++ .ref a :: st) (hsz : Ls.size = mx) (hW : (st.map fun v => v.category).sum ≤ Wd) (hd : decode κ.c.code pc = .ok (.invokevirtual index, 3)) (hc : k + rc ≤ R.cells) (hl : n + rs ≤ R.slots)
    (g : ∀ (vm' : Vm) (T' : State) (h' : Heap) (v : Option Value), W κ l R Z EL own nm mx rt vm' T' h' (k + rc) (n + rs) → CHr Z EL vm h vm' h' → Q v h' (Safe Z EL vm' h') → Go κ G T' (pc + 3) Ls (v.toList ++ st)) : Go κ G T pc Ls st0 := by
  have w0 := w
  subst hst
  obtain ⟨q1, L, k0, X, e, hS, hk, hZ, ho, N, CC⟩ := w
  obtain ⟨cB, kB, i1, i2, i3⟩ := isOf (s := κ.s.setVm vm) hZ e E
  obtain ⟨v, vm₁, ⟨T', L', k', n'⟩, -, X', hS', hgr, ⟨L2, ⟨hQ, NL⟩, p1, p2, p3, p4⟩, stp⟩ := X.virtualBackUpS q1.1 ho (mvT (s := κ.s.setVm vm) hZ w1) (mvT (s := κ.s.setVm vm) hZ w2) (mvT (s := κ.s.setVm vm) hZ w3) hy (mvT (s := κ.s.setVm vm) hZ w4) (mvT (s := κ.s.setVm vm) hZ w5) hK i1 i3 (g := mkF κ.m pc Ls (argsL.reverse ++ .ref a :: st)) rfl (by rw [q1.2.1]; exact hsz) (Steps.refl _) (argsL := argsL) (rest := st) (lenOf hde hlen) rfl (by show 2 * 0 + _ ≤ _; omega) hd (fun _ _ => ⟨rfl, e, hc, hl⟩)
  dsimp only [Pt.U, Pt.locs, Pt.cells, Pt.slots] at X' hS' hgr hQ p1 p2 p3 p4 stp
  subst p1 p2 p3
  exact Fx.after stp (g T'.vm T' T'.heap v (w0.back ⟨k0, hS, hk⟩ N X' hS' (by rw [← e]; exact hgr) NL p4) p4 hQ)
theorem W.instNo (w : W κ l R Z EL own nm mx rt vm T h k n) {K C : String} {index : Nat} (w1 : (Cond.classLink own index K).before a0 Z = true) {a : Addr} (E : Exa Z h a C) (F : ∃ c t, Z.vm.findClass C = some c ∧ Z.vm.findClass K = some t ∧ Z.vm.assignable c t = false) (hd : decode κ.c.code pc = .ok (.instanceof index, 3))
    (g : ∀ T' : State, W κ l R Z EL own nm mx rt vm T' h k n → Go κ G T' (pc + 3) Ls (.int 0 :: st)) : Go κ G T pc Ls (.ref a :: st) := by
  obtain ⟨q1, L, k0, X, e, hS, hk, hZ, ho, N, CC⟩ := w
  obtain ⟨T', X', e', stp⟩ := RoadKit.instNo X q1.1 hZ ho w1 e E F (g := mkF κ.m pc Ls (.ref a :: st)) rfl rfl hd
  exact Fx.via stp (g T' ⟨q1, L, k0, X', e', hS, hk, hZ, ho, N, CC⟩)
theorem W.instNull (w : W κ l R Z EL own nm mx rt vm T h k n) {index : Nat} (hd : decode κ.c.code pc = .ok (.instanceof index, 3)) (g : Go κ G T (pc + 3) Ls (.int 0 :: st)) : Go κ G T pc Ls (.null :: st) := by
  obtain ⟨q1, L, k0, X, -⟩ := w
  exact Fx.via (Stand.instanceofNull X q1.1 (g := mkF κ.m pc Ls (.null :: st)) rfl rfl hd) g
theorem W.lsw (w : W κ l R Z EL own nm mx rt vm T h k n) {x : Int32} {dflt : Int} {pairs : Array (Int × Int)} {len : Nat} {pc' : Nat} (hd : decode κ.c.code pc = .ok (.lookupswitch dflt pairs, len)) (hso : (pairs.toList.zip (pairs.toList.drop 1)).all (fun (a, next) => a.1 < next.1) = true) {p : Int × Int} (hf : pairs.find? (·.1 == x.toInt) = some p) (ho : 0 ≤ (pc : Int) + p.2) (hp : ((pc : Int) + p.2).toNat = pc') (g : Go κ G T pc' Ls st) : Go κ G T pc Ls (.int x :: st) := by
  obtain ⟨q1, L, k0, X, -⟩ := w
  subst hp
  obtain ⟨p1, p2⟩ := p
  exact Fx.via (fun t z => Stand.lookupswitchHit X q1.1 (g := mkF κ.m pc Ls (.int x :: st)) rfl rfl hd hso hf ho t z) g
/-- the end -/
theorem W.ends (w : W κ l R Z EL own nm mx rt vm T h k n) {Q : Option Value → Heap → (Addr → Prop) → Prop} {v : Option Value} (hv : κ.M.sig.returnType = none → v = none) (hc : k ≤ R.cells) (hl : n ≤ R.slots) (hQ : ∀ S : Addr → Prop, (∀ x, x < h.size → Safe Z EL vm h x → S x) → Q v h S) {A : State}
    (hs : ∀ fs, (∀ (f : JFrame) (acts : List Action), f.method = κ.m → f.locked = none → f.entered = [] → (doReturn κ.e (T.setTop f) acts v).1 = T.setFrames fs) → Steps κ.p.tables κ.e κ.b A (T.setFrames fs)) : Fx κ (GQ κ Z EL R Q) A := by
  have w0 := w
  obtain ⟨q1, L, k0, X, e, hS, hk, hZ, ho, N, CC⟩ := w
  obtain ⟨a0, hEL⟩ := q1.2.2.2.2.2
  obtain ⟨fs, h1, h2, h3, h4⟩ := Stand.leaveW (s := κ.s) X hS (by rw [e]; exact hk) hv q1.2.2.2.1
  refine ⟨v, T.setFrames fs, hs fs h1, h2, h3, L, ⟨?_, N⟩, ?_, h4.1, h4.2.1, h4.2.2.1, h4.2.2.2.mono hc hl⟩
  · show Q v T.heap (Safe Z EL T.vm T.heap)
    rw [e]; exact hQ _ fun x hx S => (CHv.at X hZ hEL CC.1).safe hx S
  · have := CC.trans (CHv.at X hZ hEL CC.1)
    show CHr Z EL κ.s.vm κ.s.heap T.vm T.heap
    rw [e]; exact this
theorem W.retV (w : W κ l R Z EL own nm mx none vm T h k n) {Q : Option Value → Heap → (Addr → Prop) → Prop} (hd : decode κ.c.code pc = .ok (.return_, 1)) (hc : k ≤ R.cells) (hl : n ≤ R.slots) (hQ : ∀ S : Addr → Prop, (∀ x, x < h.size → Safe Z EL vm h x → S x) → Q none h S) : Go κ (GQ κ Z EL R Q) T pc Ls [] := by
  have w0 := w
  obtain ⟨q1, L, k0, X, -⟩ := w
  exact w0.ends (fun _ => rfl) hc hl hQ fun fs hr => X.returnOut q1.1 q1.2.2.1 hd hr
theorem W.retI (w : W κ l R Z EL own nm mx rt vm T h k n) {t : FieldType} (ht : rt = some t) (htk : t = .int ∨ t = .boolean ∨ t = .byte ∨ t = .char ∨ t = .short) {Q : Option Value → Heap → (Addr → Prop) → Prop} {z : Int32} (hn : narrow t (.int z) = .int z) (hd : decode κ.c.code pc = .ok (.ireturn, 1)) (hc : k ≤ R.cells) (hl : n ≤ R.slots) (hQ : ∀ S : Addr → Prop, (∀ x, x < h.size → Safe Z EL vm h x → S x) → Q (some (.int z)) h S) : Go κ (GQ κ Z EL R Q) T pc Ls (.int z :: st) := by
  have w0 := w
  obtain ⟨q1, L, k0, X, -⟩ := w
  subst ht
  exact w0.ends (fun q => by rw [q1.2.2.1] at q; cases q) hc hl hQ fun fs hr => retOut X q1.1 q1.2.2.1 hn (Or.inl ⟨rfl, htk, z, rfl⟩) hd hr
theorem W.retA (w : W κ l R Z EL own nm mx rt vm T h k n) {t : FieldType} (ht : rt = some t) (htk : t.isReference = true) {Q : Option Value → Heap → (Addr → Prop) → Prop} {v : Value} (hvr : v.isRef = true) (hn : narrow t v = v) (hd : decode κ.c.code pc = .ok (.areturn, 1)) (hc : k ≤ R.cells) (hl : n ≤ R.slots) (hQ : ∀ S : Addr → Prop, (∀ x, x < h.size → Safe Z EL vm h x → S x) → Q (some v) h S) : Go κ (GQ κ Z EL R Q) T pc Ls (v :: st) := by
  have w0 := w
  obtain ⟨q1, L, k0, X, -⟩ := w
  subst ht
  exact w0.ends (fun q => by rw [q1.2.2.1] at q; cases q) hc hl hQ fun fs hr => retOut X q1.1 q1.2.2.1 hn (Or.inr (Or.inr (Or.inr (Or.inr ⟨rfl, htk, hvr⟩)))) hd hr
end Laws
end Jvm.WK
namespace Jvm.WK
open Sem ClassFile Op Lib Jvm.Stand Jvm.Free Jvm.LawKit Jvm.RoadKit Bundle
/-! WK3: Strings, plainly -/
abbrev ST : String := "java/lang/String"
def lo8 (x : Int32) : Int32 := x.toInt8.toInt32
def hi8 (x : Int32) : Int32 := (x >>> ((8 : Int32) &&& 31)).toInt8.toInt32
def lo0 (x : Int32) : Int32 := (x >>> ((0 : Int32) &&& 31)).toInt8.toInt32
def IsC (cs : List Int32) : Prop := ∀ c ∈ cs, ¬ c < 0 ∧ ¬ 65535 < c
def IsL (cs : List Int32) : Prop := ∀ c ∈ cs, ¬ c < 0 ∧ ¬ 255 < c
theorem IsL.isC {cs : List Int32} (h : IsL cs) : IsC cs := fun c hc => ⟨(h c hc).1, fun q => (h c hc).2 (by
  rw [Int32.lt_iff_toInt_lt] at q ⊢
  have e1 : (65535 : Int32).toInt = 65535 := by decide
  have e2 : (255 : Int32).toInt = 255 := by decide
  omega)⟩
def u16 : List Int32 → List Int32
  | [] => []
  | c :: cs => lo0 c :: hi8 c :: u16 cs
theorem u16_len : ∀ cs : List Int32, (u16 cs).length = 2 * cs.length
  | [] => rfl
  | c :: cs => by simp only [u16, List.length_cons, u16_len cs]; omega
theorem u16_app : ∀ a b : List Int32, u16 (a ++ b) = u16 a ++ u16 b
  | [], b => rfl
  | c :: cs, b => by simp only [List.cons_append, u16, u16_app cs b]
theorem u16_at : ∀ (cs : List Int32) (i : Nat) (c : Int32), cs[i]? = some c → (u16 cs)[2 * i]? = some (lo0 c) ∧ (u16 cs)[2 * i + 1]? = some (hi8 c)
  | [], i, c, h => by simp at h
  | d :: cs, 0, c, h => by
    have e : d = c := by simpa using h
    subst e
    exact ⟨rfl, rfl⟩
  | d :: cs, i + 1, c, h => by
    have h' : cs[i]? = some c := by simpa using h
    obtain ⟨h1, h2⟩ := u16_at cs i c h'
    have e1 : 2 * (i + 1) = 2 * i + 1 + 1 := by omega
    have e2 : 2 * (i + 1) + 1 = 2 * i + 1 + 1 + 1 := by omega
    rw [e1]
    exact ⟨by simpa [u16] using h1, by simpa [u16] using h2⟩
theorem ofNat_toInt {i : Nat} (h : i < 2147483648) : (Int32.ofNat i).toInt = (i : Int) := Int32.toInt_ofNat_small (by omega)
theorem ofNat_add {i j : Nat} : Int32.ofNat i + Int32.ofNat j = Int32.ofNat (i + j) := (Int32.ofNat_add i j).symm
theorem ofNat_succ {i : Nat} : Int32.ofNat i + (1 : Int32) = Int32.ofNat (i + 1) := (Int32.ofNat_add i 1).symm
theorem ofNat_lt {i j : Nat} (hi : i < 2147483648) (hj : j < 2147483648) : Int32.ofNat i < Int32.ofNat j ↔ i < j := by
  rw [Int32.lt_iff_toInt_lt, ofNat_toInt hi, ofNat_toInt hj]; omega
theorem ofNat_inj {i j : Nat} (hi : i < 2147483648) (hj : j < 2147483648) : Int32.ofNat i = Int32.ofNat j ↔ i = j := by
  rw [← Int32.toInt_inj, ofNat_toInt hi, ofNat_toInt hj]; omega
theorem ofNat_dbl {i : Nat} (h : i < 1073741824) : Int32.ofNat i <<< ((1 : Int32) &&& 31) = Int32.ofNat (2 * i) := by
  rw [← Int32.toInt_inj, ofNat_toInt (by omega)]
  have h1 := c_ishl (Int32.ofNat i) 1 1 (by decide)
  rw [ofNat_toInt (by omega)] at h1
  have h2 := rng32 (Int32.ofNat i <<< ((1 : Int32) &&& 31))
  push_cast at h1 ⊢
  omega
theorem ofNat_half {i : Nat} (h : 2 * i < 2147483648) : Int32.ofNat (2 * i) >>> ((1 : Int32) &&& 31) = Int32.ofNat i := by
  rw [← Int32.toInt_inj, ofNat_toInt (by omega), c_ishr _ 1 1 (by decide), ofNat_toInt (by omega)]
  push_cast
  omega
theorem shr0 (x : Int32) : x >>> ((0 : Int32) &&& 31) = x := by
  rw [← Int32.toInt_inj, c_ishr _ 0 0 (by decide)]
  simp
theorem fits_lo8 (x : Int32) : fits .byte (.int (lo8 x)) = true := Jvm.Free.SBG.fits_of_int8 _
theorem fits_i2b (x : Int32) : fits .byte (.int x.toInt8.toInt32) = true := Jvm.Free.SBG.fits_of_int8 _
theorem nar_i2b (x : Int32) : nar .byte x.toInt8.toInt32 = x.toInt8.toInt32 := by simp [nar]
theorem fits_i2c (x : Int32) : fits .char (.int x.toUInt32.toUInt16.toUInt32.toInt32) = true := by
  have h := c_i2c x
  have e1 : (0 : Int32).toInt = 0 := by decide
  have e2 : (65535 : Int32).toInt = 65535 := by decide
  simp only [fits, Bool.and_eq_true, decide_eq_true_eq, Int32.le_iff_toInt_le, e1, e2]
  omega
theorem nar_i2c (x : Int32) : nar .char x.toUInt32.toUInt16.toUInt32.toInt32 = x.toUInt32.toUInt16.toUInt32.toInt32 := by
  simp only [nar, UInt32.toUInt32_toInt32, UInt16.toUInt16_toUInt32]
theorem char_of {x : Int32} (h0 : ¬ x < 0) (h1 : ¬ 65535 < x) : x.toUInt32.toUInt16.toUInt32.toInt32 = x := by
  rw [← Int32.toInt_inj]
  have h := c_i2c x
  rw [Int32.lt_iff_toInt_lt] at h0 h1
  have e1 : (0 : Int32).toInt = 0 := by decide
  have e2 : (65535 : Int32).toInt = 65535 := by decide
  omega
theorem narrow_char {x : Int32} (h0 : ¬ x < 0) (h1 : ¬ 65535 < x) : narrow .char (.int x) = .int x := by
  have := char_of h0 h1
  show Value.int x.toUInt32.toUInt16.toUInt32.toInt32 = _
  rw [this]
theorem lo8_and {x : Int32} (h0 : ¬ x < 0) (h1 : ¬ 255 < x) : lo8 x &&& (255 : Int32) = x := by
  rw [← Int32.toInt_inj, c_mask _ 255 8 (by decide) (by decide)]
  have h := c_i2b x
  rw [Int32.lt_iff_toInt_lt] at h0 h1
  have e1 : (0 : Int32).toInt = 0 := by decide
  have e2 : (255 : Int32).toInt = 255 := by decide
  unfold lo8
  omega
theorem lo8_inj {x y : Int32} (h0 : ¬ x < 0) (h1 : ¬ 255 < x) (g0 : ¬ y < 0) (g1 : ¬ 255 < y) (e : lo8 x = lo8 y) : x = y := by
  rw [← lo8_and h0 h1, ← lo8_and g0 g1, e]
theorem getc {c : Int32} (h0 : ¬ c < 0) (h1 : ¬ 65535 < c) : (((lo0 c &&& (255 : Int32)) <<< ((0 : Int32) &&& 31)) ||| ((hi8 c &&& (255 : Int32)) <<< ((8 : Int32) &&& 31))).toUInt32.toUInt16.toUInt32.toInt32 = c := by
  rw [← Int32.toInt_inj]
  rw [Int32.lt_iff_toInt_lt] at h0 h1
  have e1 : (0 : Int32).toInt = 0 := by decide
  have e2 : (65535 : Int32).toInt = 65535 := by decide
  have a0 := c_ishr c 0 0 (by decide)
  have a1 := c_i2b (c >>> ((0 : Int32) &&& 31))
  have a2 := c_mask (lo0 c) 255 8 (by decide) (by decide)
  have a3 := c_ishl (lo0 c &&& 255) 0 0 (by decide)
  have a4 := rng32 ((lo0 c &&& (255 : Int32)) <<< ((0 : Int32) &&& 31))
  have b0 := c_ishr c 8 8 (by decide)
  have b1 := c_i2b (c >>> ((8 : Int32) &&& 31))
  have b2 := c_mask (hi8 c) 255 8 (by decide) (by decide)
  have b3 := c_ishl (hi8 c &&& 255) 8 8 (by decide)
  have b4 := rng32 ((hi8 c &&& (255 : Int32)) <<< ((8 : Int32) &&& 31))
  have cc := c_or' ((lo0 c &&& (255 : Int32)) <<< ((0 : Int32) &&& 31)) ((hi8 c &&& (255 : Int32)) <<< ((8 : Int32) &&& 31)) 8 (by decide) 256 (by decide)
  have dd := c_i2c (((lo0 c &&& (255 : Int32)) <<< ((0 : Int32) &&& 31)) ||| ((hi8 c &&& (255 : Int32)) <<< ((8 : Int32) &&& 31)))
  have ee := rng32 (((lo0 c &&& (255 : Int32)) <<< ((0 : Int32) &&& 31)) ||| ((hi8 c &&& (255 : Int32)) <<< ((8 : Int32) &&& 31)))
  unfold lo0 hi8 at *
  generalize (c >>> ((0 : Int32) &&& 31)).toInt8.toInt32 = x0 at *
  generalize (c >>> ((8 : Int32) &&& 31)).toInt8.toInt32 = x1 at *
  generalize (x0 &&& (255 : Int32)) <<< ((0 : Int32) &&& 31) = y0 at *
  generalize (x1 &&& (255 : Int32)) <<< ((8 : Int32) &&& 31) = y1 at *
  generalize (y0 ||| y1).toUInt32.toUInt16.toUInt32.toInt32 = z at *
  have c2 : y1.toInt % 256 = 0 := by omega
  have c3 : 0 ≤ y0.toInt := by omega
  have c4 : y0.toInt < 256 := by omega
  have cc := cc c2 c3 c4
  omega
theorem set_map {pre : List Int32} {k : Nat} {a : Int32} (f : Int32 → Int32) : (pre.map f ++ List.replicate (k + 1) (0 : Int32)).set pre.length a = pre.map f ++ a :: List.replicate k 0 := by
  rw [List.set_append_right _ _ (by simp)]
  simp [List.replicate_succ]
theorem set_u16 {pre : List Int32} {k : Nat} {a b : Int32} : ((u16 pre ++ List.replicate (2 * (k + 1)) (0 : Int32)).set (2 * pre.length) a).set (2 * pre.length + 1) b = u16 pre ++ a :: b :: List.replicate (2 * k) 0 := by
  have e : 2 * (k + 1) = 2 * k + 1 + 1 := by omega
  rw [e, List.replicate_succ, List.replicate_succ, List.set_append_right _ _ (by rw [u16_len]; omega)]
  rw [u16_len, Nat.sub_self, List.set_cons_zero, List.set_append_right _ _ (by rw [u16_len]; omega), u16_len]
  have e2 : 2 * pre.length + 1 - 2 * pre.length = 0 + 1 := by omega
  rw [e2, List.set_cons_succ, List.set_cons_zero]
theorem take_succ {cs : List Int32} {i : Nat} {c : Int32} (h : cs[i]? = some c) : cs.take (i + 1) = cs.take i ++ [c] := by
  rw [List.take_add_one, h]; rfl
/-- a String that spells cs -/
def Str (Z : State) (h : Heap) (a : Addr) (cs : List Int32) : Prop :=
  ∃ b, Exa Z h a ST ∧ Fld Z h a ST "value" "[B" (.ref b) ∧ IsC cs ∧ cs.length < 1073741824 ∧
    ((IsL cs ∧ Fld Z h a ST "coder" "B" (.int 0) ∧ Ary Z h b .byte (cs.map lo8)) ∨ (¬ IsL cs ∧ Fld Z h a ST "coder" "B" (.int 1) ∧ Ary Z h b .byte (u16 cs)))
section StrFacts
variable {Z : State} {h h' : Heap} {a : Addr} {cs : List Int32} {ws : List Addr}
theorem Str.ext (E : Ext h h') (F : Str Z h a cs) : Str Z h' a cs := by
  obtain ⟨b, f1, f2, f3, f4, f5⟩ := F
  exact ⟨b, f1.ext E, f2.ext E, f3, f4, f5.imp (fun q => ⟨q.1, q.2.1.ext E, q.2.2.ext E⟩) (fun q => ⟨q.1, q.2.1.ext E, q.2.2.ext E⟩)⟩
theorem Str.exa (F : Str Z h a cs) : Exa Z h a ST := by obtain ⟨b, f1, -⟩ := F; exact f1
theorem Str.lt (F : Str Z h a cs) : a < h.size := F.exa.lt
theorem Str.isC (F : Str Z h a cs) : IsC cs := by obtain ⟨b, f1, f2, f3, -⟩ := F; exact f3
theorem Keep.toExt (K : Keep h h' []) : Ext h h' := ⟨K.1, fun x c q => K.2.1 x c q nin0⟩
/-- kept where all that was written is new (at or above h.size) -/
theorem Str.keepNew {h0 : Heap} (K : Keep h0 h' ws) (F : Str Z h0 a cs) (hw : ∀ x ∈ ws, h0.size ≤ x) : Str Z h' a cs :=
  F.ext ⟨K.1, fun x c q => K.2.1 x c q fun hm => absurd (Array.getElem?_eq_some_iff.mp q).1 (Nat.not_lt.mpr (hw x hm))⟩
end StrFacts
end Jvm.WK
namespace Jvm.WK
open Sem ClassFile Op Lib Jvm.Stand Jvm.Free Jvm.LawKit Jvm.RoadKit Bundle
section StrMore
variable {Z : State} {h h' : Heap} {a b x y : Addr} {cs ds : List Int32} {ws : List Addr} {a0 : Array Value}
theorem Ary.ne_exa {C : String} {kk : Nat} {ty : FieldType} {vs : List Int32} (F : Ary Z h y ty vs) (E : Exa Z h x C) (wi : (Cond.instantiable C kk).before a0 Z = true) : y ≠ x := by
  obtain ⟨c, A, -⟩ := F; exact fun e => ne_arr E wi A e.symm
theorem Ary.inj {ty : FieldType} {us vs : List Int32} (F : Ary Z h a ty us) (G : Ary Z h a ty vs) : us = vs := by
  obtain ⟨c, A, r1, -⟩ := F
  obtain ⟨c', A', r1', -⟩ := G
  cases A.1.symm.trans A'.1
  have := r1.symm.trans r1'
  exact (List.map_inj_right (fun x y q => by cases q; rfl)).mp this
theorem Ary.isC (F : Ary Z h a .char cs) : IsC cs := fun c hc => by
  have := F.fit c hc
  exact rng_char this
theorem Fld.inj {C n d : String} {v w : Value} (F : Fld Z h a C n d v) (G : Fld Z h a C n d w) : v = w := Classical.byContradiction fun q => F.ne G q rfl
theorem lo8_list : ∀ {cs ds : List Int32}, IsL cs → IsL ds → cs.map lo8 = ds.map lo8 → cs = ds
  | [], [], _, _, _ => rfl
  | [], d :: ds, _, _, h => by simp at h
  | c :: cs, [], _, _, h => by simp at h
  | c :: cs, d :: ds, h1, h2, h => by
    simp only [List.map_cons, List.cons.injEq] at h
    have e1 := lo8_inj (h1 c (List.mem_cons_self ..)).1 (h1 c (List.mem_cons_self ..)).2 (h2 d (List.mem_cons_self ..)).1 (h2 d (List.mem_cons_self ..)).2 h.1
    have e2 := lo8_list (fun x hx => h1 x (List.mem_cons_of_mem _ hx)) (fun x hx => h2 x (List.mem_cons_of_mem _ hx)) h.2
    rw [e1, e2]
theorem Str.lat (F : Str Z h a cs) (hL : IsL cs) : ∃ b, Fld Z h a ST "value" "[B" (.ref b) ∧ Fld Z h a ST "coder" "B" (.int 0) ∧ Ary Z h b .byte (cs.map lo8) := by
  obtain ⟨b, f1, f2, f3, f4, f5 | f5⟩ := F
  · exact ⟨b, f2, f5.2⟩
  · exact absurd hL f5.1
theorem Str.inj (F : Str Z h a cs) (G : Str Z h a ds) (hc : IsL cs) (hd : IsL ds) : cs = ds := by
  obtain ⟨b, f1, f2, f3⟩ := F.lat hc
  obtain ⟨b', g1, g2, g3⟩ := G.lat hd
  have := Fld.inj f1 g1
  cases this
  exact lo8_list hc hd (f3.inj g3)
theorem Str.len_lt (F : Str Z h a cs) : cs.length < 1073741824 := by obtain ⟨b, f1, f2, f3, f4, -⟩ := F; exact f4
theorem cod0 {n : Nat} : (((Int32.ofNat n - Int32.ofNat n).toUInt32 >>> ((31 : Int32) &&& 31).toUInt32).toInt32).toInt8.toInt32 = 0 := by
  rw [Int32.sub_self]; decide
theorem cod1 {n : Nat} (h0 : 0 < n) (h : 2 * n < 2147483648) : (((Int32.ofNat n - Int32.ofNat (2 * n)).toUInt32 >>> ((31 : Int32) &&& 31).toUInt32).toInt32).toInt8.toInt32 = 1 := by
  have e : ((Int32.ofNat n - Int32.ofNat (2 * n)).toUInt32 >>> ((31 : Int32) &&& 31).toUInt32).toInt32 = 1 := by
    rw [← Int32.toInt_inj, c_iushr _ 31 31 (by decide) (by decide)]
    have h1 := c_isub (Int32.ofNat n) (Int32.ofNat (2 * n))
    rw [ofNat_toInt (by omega), ofNat_toInt (by omega)] at h1
    have h2 := rng32 (Int32.ofNat n - Int32.ofNat (2 * n))
    have h3 : (1 : Int32).toInt = 1 := by decide
    rw [h3]
    omega
  rw [e]; decide
theorem isL_of {cs : List Int32} (hc : IsC cs) (h : ∀ i c, i < cs.length → cs[i]? = some c → ¬ 255 < c) : IsL cs := fun c hm => by
  obtain ⟨i, hi, rfl⟩ := List.getElem_of_mem hm
  exact ⟨(hc _ hm).1, h i _ hi (List.getElem?_eq_getElem hi)⟩
theorem not_isL {cs : List Int32} {i : Nat} {c : Int32} (h : cs[i]? = some c) (q : 255 < c) : ¬ IsL cs := fun hl => (hl c (List.mem_of_getElem? h)).2 q
end StrMore
end Jvm.WK
namespace Jvm.WK
open Sem ClassFile Op Lib Jvm.Stand Jvm.Free Jvm.LawKit Jvm.RoadKit Bundle
theorem fitsCh {x : Int32} (h0 : ¬ x < 0) (h1 : ¬ 65535 < x) : fits .char (.int x) = true := by
  have := fits_i2c x
  rw [char_of h0 h1] at this; exact this
theorem narCh {x : Int32} (h0 : ¬ x < 0) (h1 : ¬ 65535 < x) : nar .char x = x := char_of h0 h1
theorem and255 (x : Int32) : ¬ (x &&& (255 : Int32)).toUInt32.toUInt16.toUInt32.toInt32 < 0 ∧ ¬ 255 < (x &&& (255 : Int32)).toUInt32.toUInt16.toUInt32.toInt32 := by
  have h1 := c_and x 255 (by decide)
  have h2 := c_i2c (x &&& 255)
  have h3 : (255 : Int32).toInt = 255 := by decide
  have h4 : (0 : Int32).toInt = 0 := by decide
  rw [Int32.lt_iff_toInt_lt, Int32.lt_iff_toInt_lt]
  omega
theorem and255' (x : Int32) : ¬ (x &&& (255 : Int32)) < 0 ∧ ¬ 255 < (x &&& (255 : Int32)) := by
  have h1 := c_and x 255 (by decide)
  have h3 : (255 : Int32).toInt = 255 := by decide
  have h4 : (0 : Int32).toInt = 0 := by decide
  rw [Int32.lt_iff_toInt_lt, Int32.lt_iff_toInt_lt]
  omega
theorem i2c_bounds (x : Int32) : ¬ x.toUInt32.toUInt16.toUInt32.toInt32 < 0 ∧ ¬ 65535 < x.toUInt32.toUInt16.toUInt32.toInt32 := by
  have h2 := c_i2c x
  have h3 : (65535 : Int32).toInt = 65535 := by decide
  have h4 : (0 : Int32).toInt = 0 := by decide
  rw [Int32.lt_iff_toInt_lt, Int32.lt_iff_toInt_lt]
  omega
theorem le255 {x : Int32} (h : ¬ 255 < x) : ¬ 65535 < x := by
  have h3 : (65535 : Int32).toInt = 65535 := by decide
  have h4 : (255 : Int32).toInt = 255 := by decide
  rw [Int32.lt_iff_toInt_lt] at h ⊢
  omega
/-- a remainder of a masked int is a small number -/
theorem remNat (x q m : Int32) (n : Nat) (hq : 0 ≤ q.toInt) (hm : m.toInt = n) (h0 : 0 < n) : ∃ k, k < n ∧ (x &&& q) % m = Int32.ofNat k := by
  have h1 := c_and x q hq
  have h2 := (c_irem (x &&& q) m n hm).1 h1.1
  have h3 := Int.emod_nonneg (x &&& q).toInt (show (n : Int) ≠ 0 by omega)
  have h4 := Int.emod_lt_of_pos (x &&& q).toInt (show (0 : Int) < n by omega)
  have h5 := rng32 m
  refine ⟨((x &&& q).toInt % n).toNat, by omega, ?_⟩
  rw [← Int32.toInt_inj, h2, ofNat_toInt (by omega)]
  omega
/-- an int masked by a small constant is a small number -/
theorem andNat (x m : Int32) (n : Nat) (hm : m.toInt = n) : ∃ k, k ≤ n ∧ (x &&& m) = Int32.ofNat k := by
  have h1 := c_and x m (by omega)
  have h5 := rng32 m
  refine ⟨(x &&& m).toInt.toNat, by omega, ?_⟩
  rw [← Int32.toInt_inj, ofNat_toInt (by omega)]
  omega
end Jvm.WK
namespace Jvm.WK
open Sem ClassFile Op Lib Jvm.Stand Jvm.Free Jvm.LawKit Jvm.RoadKit Bundle
/-- a String is kept where just an object of another class was written -/
theorem Str.keepObj {Z : State} {h h' : Heap} {a x : Addr} {cs : List Int32} {C : String} {kk : Nat} {a0 : Array Value} (F : Str Z h a cs) (K : Keep h h' [x]) (E : Exa Z h x C) (hC : C ≠ ST) (wi : (Cond.instantiable C kk).before a0 Z = true) : Str Z h' a cs := by
  obtain ⟨b, f1, f2, f3, f4, f5⟩ := F
  have n1 : a ∉ [x] := ninS (Exa.ne f1 E (Ne.symm hC)) nin0
  have n2 : ∀ {vs : List Int32}, Ary Z h b .byte vs → b ∉ [x] := fun A => ninS (A.ne_exa E wi) nin0
  exact ⟨b, f1.keep K, f2.keep K n1, f3, f4, f5.imp (fun q => ⟨q.1, q.2.1.keep K n1, q.2.2.keep K (n2 q.2.2)⟩) (fun q => ⟨q.1, q.2.1.keep K n1, q.2.2.keep K (n2 q.2.2)⟩)⟩
theorem Ary.ofStatic {Z : State} {a : Addr} {args : Array Value} {t : Term} {AL : List Int32} (ev : t.eval args Z none [] Z = some (.ref a)) (hx : (Cond.arrayOf t .int).value args Z none Z [] = some true) (n : Nat) (hn : AL.length = n) (hlen : (Term.length t).eval args Z none [] Z = some (.int (Int32.ofNat n))) (hl : n < 2147483648) (hr : ∀ (i : Nat) (v : Int32), AL[i]? = some v → (Term.elem t (.int (Int32.ofNat i))).eval args Z none [] Z = some (.int v)) : Ary Z Z.heap a .int AL := by
  obtain ⟨c, A⟩ := Arr.start ev hx
  have hz : c.slots.size = n := by
    simp only [Term.eval, ev, Option.bind_eq_bind, Option.bind_some, A.fin (Vm.Alike.refl _)] at hlen
    split at hlen
    · rename_i hq
      have := Value.int.inj (Option.some.inj hlen)
      exact (ofNat_inj (by omega) hl).mp this
    · simp at hlen
  refine ⟨c, A, List.ext_getElem? fun i => ?_, by omega, fun v hv => rfl⟩
  by_cases hi : i < n
  · have hv := List.getElem?_eq_getElem (l := AL) (i := i) (by omega)
    have q := elem_in (hr i _ hv) ev (Term.int_eval _) A.1
    rw [clamp_ofNat (by omega)] at q
    rw [List.getElem?_map, hv, Array.getElem?_toList]; exact q.2
  · rw [List.getElem?_eq_none (by simp; omega), List.getElem?_eq_none (by simp; omega)]
theorem noIns {Z : State} {a0 : Array Value} {C O K : String} {nn : Nat} (w : (Cond.superclass C O).before a0 Z = true) (wo : (Cond.noSuperclass O).before a0 Z = true) (wi : (Cond.instantiable K nn).before a0 Z = true) (h1 : C ≠ K) (h2 : O ≠ K) : ∃ c t, Z.vm.findClass C = some c ∧ Z.vm.findClass K = some t ∧ Z.vm.assignable c t = false := by
  obtain ⟨t, kt, g1, g2, g3, g4, -⟩ := Cond.instantiable_spec wi
  have n0 : NS Z O K := by
    obtain ⟨c, k, a1, a2, a3, -, -⟩ := Cond.noSuperclass_spec wo
    have ne := ids_ne a1 g1 h2
    refine ⟨c, t, a1, g1, fun fuel => ?_⟩
    cases fuel with
    | zero => rfl
    | succ f => simp [Vm.isSubclassAux, ne, a2, a3]
  obtain ⟨c, t', h0, g0, n3⟩ := NS.step w n0 h1
  cases g1.symm.trans g0
  obtain ⟨p, k, kp, q1, q2, q3, q4, q5, -, q7⟩ := Cond.superclass_spec h0 w
  have ne := ids_ne h0 g0 h1
  have hi : kt.isInterface = false := by
    rw [Bool.or_eq_false_iff] at g4; exact g4.1
  refine ⟨c, _, h0, g0, ?_⟩
  show Z.vm.assignableAux (255 + 1) c _ = false
  simp [Vm.assignableAux, ne, q2, g2, q5, g3, hi, Vm.isSubclass, n3]
end Jvm.WK
namespace Jvm.Pilot.@@N@@
open Jvm Jvm.ClassFile Sem Op Lib Jvm.Free Jvm.Stand Jvm.LawKit Jvm.RoadKit Jvm.WK Bundle Jvm.Pilot.@@N@@.Jvm.D
def JS (Z : State) : Prop := (∃ c : Int32, Sta Z Z.heap "java/lang/String" "COMPACT_STRINGS" "Z" (.int c) ∧ ¬ c = 0) ∧ ∃ f : Value, Sta Z Z.heap "jdk/internal/util/Preconditions" "SIOOBE_FORMATTER" "Ljava/util/function/BiFunction;" f ∧ f.isRef = true
theorem own_str {a0 : Array Value} {Z : State} (hw : ∀ d ∈ tables_1, d.before a0 Z = true) : ∀ c ∈ Bundle.stringAtoms, c.before a0 Z = true := by
  have h : ∀ c ∈ Bundle.stringAtoms, c ∈ tables_1 := by decide +kernel
  exact fun c hc => hw c (h c hc)
theorem own_eqi {args : Array Value} {s : State} {t : Term} {z : Int32} (h : (Jvm.Cond.eq t (.int z)).value args s none s [] = some true) : t.eval args s none [] s = some (.int z) := eqv_i (Term.int_eval z) h
def TY (Z : State) (ty : Nat → Addr) : Prop := Sta Z Z.heap "com/example/heronbus/heronbus/selector/Token$Type" "KEYWORD" "Lcom/example/heronbus/heronbus/selector/Token$Type;" (.ref (ty 0)) ∧ Sta Z Z.heap "com/example/heronbus/heronbus/selector/Token$Type" "IDENTIFIER" "Lcom/example/heronbus/heronbus/selector/Token$Type;" (.ref (ty 1)) ∧ Sta Z Z.heap "com/example/heronbus/heronbus/selector/Token$Type" "LITERAL" "Lcom/example/heronbus/heronbus/selector/Token$Type;" (.ref (ty 2)) ∧ Sta Z Z.heap "com/example/heronbus/heronbus/selector/Token$Type" "OPERATOR" "Lcom/example/heronbus/heronbus/selector/Token$Type;" (.ref (ty 3)) ∧ Sta Z Z.heap "com/example/heronbus/heronbus/selector/Token$Type" "END" "Lcom/example/heronbus/heronbus/selector/Token$Type;" (.ref (ty 4)) ∧ ∀ i j, i < 5 → j < 5 → ty i = ty j → i = j
theorem own_text {n m : Nat} {a b c d : Int32} (hn : n < 3) (hm : m < 3) : [a, b].take n = [c, d].take m ↔ (n = m ∧ (n < 1 ∨ a = c) ∧ (n < 2 ∨ b = d)) := by
  obtain rfl | rfl | rfl : n = 0 ∨ n = 1 ∨ n = 2 := by omega
  all_goals obtain rfl | rfl | rfl : m = 0 ∨ m = 1 ∨ m = 2 := by omega
  all_goals simp
theorem own_isL2 {n : Nat} {a b : Int32} (h : IsL [a, b]) : IsL ([a, b].take n) := fun c hc => h c (List.mem_of_mem_take hc)
theorem own_ne {Z : State} {h : Heap} {a b : Addr} {C n d : String} {v w : Value} (F : Fld Z h a C n d v) (G : Fld Z h b C n d w) (q : a = b) : v = w := by
  subst q; exact Fld.inj F G
theorem own_fldi {args : Array Value} {s : State} {t : Term} {a : Addr} {C n d : String} {z : Int32} (ht : t.eval args s none [] s = some (.ref a)) (h : (Term.field t C n d).eval args s none [] s = some (.int z)) : s.fieldOf? a C n d = some (.int z) := by
  simpa [Term.eval, ht] using h
theorem pd0 : parseMethodDescriptor "([CI[BII)I" = some ⟨[(.array .char), .int, (.array .byte), .int, .int], (some .int)⟩ := by decide +kernel
theorem pd1 : parseMethodDescriptor "([CII)[B" = some ⟨[(.array .char), .int, .int], (some (.array .byte))⟩ := by decide +kernel
theorem pd2 : parseMethodDescriptor "([BI)B" = some ⟨[(.array .byte), .int], (some .byte)⟩ := by decide +kernel
theorem pd3 : parseMethodDescriptor "([CIILjava/lang/Void;)V" = some ⟨[(.array .char), .int, .int, (.object "java/lang/Void")], none⟩ := by decide +kernel
theorem pd4 : parseMethodDescriptor "([B[B)Z" = some ⟨[(.array .byte), (.array .byte)], (some .boolean)⟩ := by decide +kernel
theorem pd5 : parseMethodDescriptor "([C)V" = some ⟨[(.array .char)], none⟩ := by decide +kernel
theorem pd6 : parseMethodDescriptor "()V" = some ⟨[], none⟩ := by decide +kernel
theorem pd7 : parseMethodDescriptor "(Ljava/lang/Object;)Z" = some ⟨[(.object "java/lang/Object")], (some .boolean)⟩ := by decide +kernel
theorem pd8 : parseMethodDescriptor "(ICC)Ljava/lang/String;" = some ⟨[.int, .char, .char], (some (.object "java/lang/String"))⟩ := by decide +kernel
theorem pd9 : parseMethodDescriptor "(I)Lcom/example/heronbus/heronbus/selector/Token$Type;" = some ⟨[.int], (some (.object "com/example/heronbus/heronbus/selector/Token$Type"))⟩ := by decide +kernel
theorem pd10 : parseMethodDescriptor "(Lcom/example/heronbus/heronbus/selector/Token$Type;Ljava/lang/String;Ljava/lang/Object;I)V" = some ⟨[(.object "com/example/heronbus/heronbus/selector/Token$Type"), (.object "java/lang/String"), (.object "java/lang/Object"), .int], none⟩ := by decide +kernel
theorem pd11 : parseMethodDescriptor "(Lcom/example/heronbus/heronbus/selector/Token$Type;Ljava/lang/String;)Z" = some ⟨[(.object "com/example/heronbus/heronbus/selector/Token$Type"), (.object "java/lang/String")], (some .boolean)⟩ := by decide +kernel
def D_cmp5 : List (Nat × Instr × Nat) := [(0, .iconst 0, 1), (1, .istore 5, 2), (3, .iload 5, 2), (5, .iload 4, 2), (7, .if_icmp .ge 37, 3), (10, .aload_n 0, 1), (11, .iload_n 1, 1), (12, .caload, 1), (13, .istore 6, 2), (15, .iload 6, 2), (17, .sipush 255, 3), (20, .if_icmp .le 6, 3), (23, .iload 5, 2), (25, .ireturn, 1), (26, .aload_n 2, 1), (27, .iload_n 3, 1), (28, .iload 6, 2), (30, .i2b, 1), (31, .bastore, 1), (32, .iinc 1 1, 3), (35, .iinc 3 1, 3), (38, .iinc 5 1, 3), (41, .goto (-38), 3), (44, .iload 4, 2), (46, .ireturn, 1)]
theorem hD_cmp5 : ∀ q ∈ D_cmp5, decode jdk_52_method_21_code q.1 = .ok q.2 := by decide +kernel
set_option maxRecDepth 65536 in
set_option maxHeartbeats 4000000 in
theorem c_cmp5 (l : Launch) (Z : State) (a0 : Array Value) (hw : ∀ d ∈ tables_1, d.before a0 Z = true) (hEL : EW Z a0 consts_1) (hJS : JS Z) (ty : Nat → Addr) (hTY : TY Z ty) {A d : Addr} {cs : List Int32} {h : Heap} (FA : Ary Z h A .char cs) (FD : Ary Z h d .byte (List.replicate cs.length 0)) (hd0 : Z.heap.size ≤ d) : Ctr l Z consts_1 (⟨"java/lang/StringUTF16", "compress", "([CI[BII)I"⟩ : MethodName) jdk_52_method_21_code 7 (some .int) [] ({ frames := 0, cells := 0, slots := 0, locals := 0 } : Room) [d] #[(.ref A), (.int (0 : Int32)), (.ref d), (.int (0 : Int32)), (.int (Int32.ofNat cs.length))] h (fun v h' S => ∃ r, r ≤ cs.length ∧ v = some (.int (Int32.ofNat r)) ∧ Keep h h' [d] ∧ (∀ i c, i < r → cs[i]? = some c → ¬ 255 < c) ∧ (r < cs.length → ∃ c, cs[r]? = some c ∧ 255 < c) ∧ (r = cs.length → Ary Z h' d .byte (cs.map lo8))) := by
  refine enter (a0 := a0) (by first | (simp [plainName, overriddenIn]; done) | decide +kernel) hEL (Ls := #[.val (.ref A), .val (.int (0 : Int32)), .val (.ref d), .val (.int (0 : Int32)), .val (.int (Int32.ofNat cs.length)), .unset, .unset]) (fun m => by first | (simp [entryFrame, mkF, argsToLocals, Value.category]; done) | rfl) ?_
  intro κ vm T hby hs w Sf
  have dc := Dec.of hby hD_cmp5
  show Go κ (GQ κ Z consts_1 ({ frames := 0, cells := 0, slots := 0, locals := 0 } : Room) (fun v h' S => ∃ r, r ≤ cs.length ∧ v = some (.int (Int32.ofNat r)) ∧ Keep h h' [d] ∧ (∀ i c, i < r → cs[i]? = some c → ¬ 255 < c) ∧ (r < cs.length → ∃ c, cs[r]? = some c ∧ 255 < c) ∧ (r = cs.length → Ary Z h' d .byte (cs.map lo8)))) T 0 #[.val (.ref A), .val (.int (0 : Int32)), .val (.ref d), .val (.int (0 : Int32)), .val (.int (Int32.ofNat cs.length)), .unset, .unset] []
  have hNA := FA.small
  have hne : A ≠ d := FA.ne_ty FD (by decide)
  have key : ∀ (f i : Nat), i + f = cs.length → (∀ j c, j < i → cs[j]? = some c → ¬ 255 < c) → ∀ (T1 : State) (h1 : Heap) (s6 : Slot), W κ l ({ frames := 0, cells := 0, slots := 0, locals := 0 } : Room) Z consts_1 "java/lang/StringUTF16" "compress" 7 (some .int) vm T1 h1 0 0 → Ary Z h1 A .char cs → Ary Z h1 d .byte ((cs.take i).map lo8 ++ List.replicate f 0) → Keep h h1 [d] → Safe Z consts_1 vm h1 d → One s6 → Go κ (GQ κ Z consts_1 ({ frames := 0, cells := 0, slots := 0, locals := 0 } : Room) (fun v h' S => ∃ r, r ≤ cs.length ∧ v = some (.int (Int32.ofNat r)) ∧ Keep h h' [d] ∧ (∀ i c, i < r → cs[i]? = some c → ¬ 255 < c) ∧ (r < cs.length → ∃ c, cs[r]? = some c ∧ 255 < c) ∧ (r = cs.length → Ary Z h' d .byte (cs.map lo8)))) T1 3 #[.val (.ref A), .val (.int (Int32.ofNat i)), .val (.ref d), .val (.int (Int32.ofNat i)), .val (.int (Int32.ofNat cs.length)), .val (.int (Int32.ofNat i)), s6] [] := by
    intro f
    induction f with
    | zero =>
      intro i hi hlt T1 h1 s6 w1 GA GD K S hs6
      obtain rfl : i = cs.length := by omega
      show Go κ _ T1 3 #[.val (.ref A), .val (.int (Int32.ofNat cs.length)), .val (.ref d), .val (.int (Int32.ofNat cs.length)), .val (.int (Int32.ofNat cs.length)), .val (.int (Int32.ofNat cs.length)), s6] []
      refine blk (pc' := 7) (Ls' := #[.val (.ref A), .val (.int (Int32.ofNat cs.length)), .val (.ref d), .val (.int (Int32.ofNat cs.length)), .val (.int (Int32.ofNat cs.length)), .val (.int (Int32.ofNat cs.length)), s6]) (st' := [(.int (Int32.ofNat cs.length)), (.int (Int32.ofNat cs.length))]) [oIload w1.ok (dc.g 2 rfl), oIload w1.ok (dc.g 3 rfl)] rfl ?_
      refine cGe (pc' := 44) w1.ok (dc.g 4 rfl) (by decide) (by decide) (fun hc1 => ?_) (fun hc1 => absurd hc1 (fun q => absurd q (by rw [ofNat_lt hNA hNA]; omega)))
      show Go κ _ T1 44 #[.val (.ref A), .val (.int (Int32.ofNat cs.length)), .val (.ref d), .val (.int (Int32.ofNat cs.length)), .val (.int (Int32.ofNat cs.length)), .val (.int (Int32.ofNat cs.length)), s6] []
      refine blk (pc' := 46) (Ls' := #[.val (.ref A), .val (.int (Int32.ofNat cs.length)), .val (.ref d), .val (.int (Int32.ofNat cs.length)), .val (.int (Int32.ofNat cs.length)), .val (.int (Int32.ofNat cs.length)), s6]) (st' := [(.int (Int32.ofNat cs.length))]) [oIload w1.ok (dc.g 23 rfl)] rfl ?_
      exact w1.retI (t := .int) rfl (Or.inl rfl) rfl (dc.g 24 rfl) (by decide) (by decide) (fun S hS => ⟨cs.length, Nat.le_refl _, rfl, K, hlt, fun q => absurd q (Nat.lt_irrefl _), fun _ => by simpa using GD⟩)
    | succ f ih =>
      intro i hi hlt T1 h1 s6 w1 GA GD K S hs6
      obtain ⟨c, hc⟩ : ∃ c, cs[i]? = some c := ⟨_, List.getElem?_eq_getElem (by omega)⟩
      show Go κ _ T1 3 #[.val (.ref A), .val (.int (Int32.ofNat i)), .val (.ref d), .val (.int (Int32.ofNat i)), .val (.int (Int32.ofNat cs.length)), .val (.int (Int32.ofNat i)), s6] []
      refine blk (pc' := 7) (Ls' := #[.val (.ref A), .val (.int (Int32.ofNat i)), .val (.ref d), .val (.int (Int32.ofNat i)), .val (.int (Int32.ofNat cs.length)), .val (.int (Int32.ofNat i)), s6]) (st' := [(.int (Int32.ofNat cs.length)), (.int (Int32.ofNat i))]) [oIload w1.ok (dc.g 2 rfl), oIload w1.ok (dc.g 3 rfl)] rfl ?_
      refine cGe (pc' := 44) w1.ok (dc.g 4 rfl) (by decide) (by decide) (fun hc2 => absurd ((ofNat_lt (by omega) hNA).mpr (by omega)) hc2) (fun hc2 => ?_)
      show Go κ _ T1 10 #[.val (.ref A), .val (.int (Int32.ofNat i)), .val (.ref d), .val (.int (Int32.ofNat i)), .val (.int (Int32.ofNat cs.length)), .val (.int (Int32.ofNat i)), s6] []
      refine blk (pc' := 12) (Ls' := #[.val (.ref A), .val (.int (Int32.ofNat i)), .val (.ref d), .val (.int (Int32.ofNat i)), .val (.int (Int32.ofNat cs.length)), .val (.int (Int32.ofNat i)), s6]) (st' := [(.int (Int32.ofNat i)), (.ref A)]) [oAloadN w1.ok (dc.g 5 rfl), oIloadN w1.ok (dc.g 6 rfl)] rfl ?_
      refine w1.cld GA (i := i) rfl hc (dc.g 7 rfl) ?_
      show Go κ _ T1 13 #[.val (.ref A), .val (.int (Int32.ofNat i)), .val (.ref d), .val (.int (Int32.ofNat i)), .val (.int (Int32.ofNat cs.length)), .val (.int (Int32.ofNat i)), s6] [(.int c)]
      refine istoreG w1.ok (dc.g 8 rfl) rfl hs6 ?_
      show Go κ _ T1 15 #[.val (.ref A), .val (.int (Int32.ofNat i)), .val (.ref d), .val (.int (Int32.ofNat i)), .val (.int (Int32.ofNat cs.length)), .val (.int (Int32.ofNat i)), .val (.int c)] []
      refine blk (pc' := 20) (Ls' := #[.val (.ref A), .val (.int (Int32.ofNat i)), .val (.ref d), .val (.int (Int32.ofNat i)), .val (.int (Int32.ofNat cs.length)), .val (.int (Int32.ofNat i)), .val (.int c)]) (st' := [(.int (255 : Int32)), (.int c)]) [oIload w1.ok (dc.g 9 rfl), oSipush w1.ok (dc.g 10 rfl)] rfl ?_
      refine cLe (pc' := 26) w1.ok (dc.g 11 rfl) (by decide) (by decide) (fun hc3 => ?_) (fun hc3 => ?_)
      · show Go κ _ T1 26 #[.val (.ref A), .val (.int (Int32.ofNat i)), .val (.ref d), .val (.int (Int32.ofNat i)), .val (.int (Int32.ofNat cs.length)), .val (.int (Int32.ofNat i)), .val (.int c)] []
        refine blk (pc' := 31) (Ls' := #[.val (.ref A), .val (.int (Int32.ofNat i)), .val (.ref d), .val (.int (Int32.ofNat i)), .val (.int (Int32.ofNat cs.length)), .val (.int (Int32.ofNat i)), .val (.int c)]) (st' := [(.int ((c).toInt8.toInt32)), (.int (Int32.ofNat i)), (.ref d)]) [oAloadN w1.ok (dc.g 14 rfl), oIloadN w1.ok (dc.g 15 rfl), oIload w1.ok (dc.g 16 rfl), oI2b w1.ok (dc.g 17 rfl)] rfl ?_
        refine w1.bst GD (i := i) rfl (by simp; omega) (nar_i2b _) (fits_i2b _) S hd0 (dc.g 18 rfl) ?_
        intro T4 h6 w5 W7 F8 S9
        show Go κ _ T4 32 #[.val (.ref A), .val (.int (Int32.ofNat i)), .val (.ref d), .val (.int (Int32.ofNat i)), .val (.int (Int32.ofNat cs.length)), .val (.int (Int32.ofNat i)), .val (.int c)] []
        obtain ⟨slW7, vvW7, WW7⟩ := W7
        refine blk (pc' := 3) (Ls' := #[.val (.ref A), .val (.int ((Int32.ofNat i) + (1 : Int32))), .val (.ref d), .val (.int ((Int32.ofNat i) + (1 : Int32))), .val (.int (Int32.ofNat cs.length)), .val (.int ((Int32.ofNat i) + (1 : Int32))), .val (.int c)]) (st' := []) [oIinc w5.ok (dc.g 19 rfl), oIinc w5.ok (dc.g 20 rfl), oIinc w5.ok (dc.g 21 rfl), oGoto w5.ok 3 (dc.g 22 rfl)] rfl ?_
        rw [ofNat_succ]
        refine ih (i + 1) (by omega) (fun j c' hj hc' => ?_) _ _ _ w5 (GA.other WW7 hne) ?_ (K.wr WW7 (Or.inl (List.mem_of_getElem? (i := 0) rfl))) S9 (One.val rfl)
        · rcases Nat.lt_succ_iff_lt_or_eq.mp hj with q | q
          · exact hlt j c' q hc'
          · subst q; rw [hc] at hc'; cases hc'; exact hc3
        · have e : (cs.take i).length = i := by rw [List.length_take]; omega
          have := set_map (pre := cs.take i) (k := f) (a := c.toInt8.toInt32) lo8
          rw [e] at this
          rw [this] at F8
          rw [take_succ hc, List.map_append, List.append_assoc]; exact F8
      · show Go κ _ T1 23 #[.val (.ref A), .val (.int (Int32.ofNat i)), .val (.ref d), .val (.int (Int32.ofNat i)), .val (.int (Int32.ofNat cs.length)), .val (.int (Int32.ofNat i)), .val (.int c)] []
        refine blk (pc' := 25) (Ls' := #[.val (.ref A), .val (.int (Int32.ofNat i)), .val (.ref d), .val (.int (Int32.ofNat i)), .val (.int (Int32.ofNat cs.length)), .val (.int (Int32.ofNat i)), .val (.int c)]) (st' := [(.int (Int32.ofNat i))]) [oIload w1.ok (dc.g 12 rfl)] rfl ?_
        exact w1.retI (t := .int) rfl (Or.inl rfl) rfl (dc.g 13 rfl) (by decide) (by decide) (fun S hS => ⟨i, by omega, rfl, K, hlt, fun _ => ⟨c, hc, hc3⟩, fun q => by omega⟩)
  refine blk (pc' := 3) (Ls' := #[.val (.ref A), .val (.int (0 : Int32)), .val (.ref d), .val (.int (0 : Int32)), .val (.int (Int32.ofNat cs.length)), .val (.int (0 : Int32)), .unset]) (st' := []) [oIconst w.ok (dc.g 0 rfl), oIstore w.ok (dc.g 1 rfl)] rfl ?_
  exact key cs.length 0 (by omega) (fun j c q => by omega) T h .unset w FA (by simpa using FD) (Keep.refl _ _) (Sf d (List.mem_singleton.mpr rfl)) One.u
def D_cmp3 : List (Nat × Instr × Nat) := [(0, .iload_n 2, 1), (1, .newarray .byte, 2), (3, .astore_n 3, 1), (4, .aload_n 0, 1), (5, .iload_n 1, 1), (6, .aload_n 3, 1), (7, .iconst 0, 1), (8, .iload_n 2, 1), (9, .invokestatic 115, 3), (12, .istore 4, 2), (14, .iload 4, 2), (16, .iload_n 2, 1), (17, .if_icmp .eq 40, 3), (20, .aload_n 0, 1), (21, .iload_n 1, 1), (22, .iload_n 2, 1), (23, .invokestatic 119, 3), (26, .astore 5, 2), (28, .aload 5, 2), (30, .iload 4, 2), (32, .invokestatic 71, 3), (35, .sipush 255, 3), (38, .if_icmp .gt 16, 3), (41, .aload 5, 2), (43, .iconst 0, 1), (44, .aload_n 3, 1), (45, .iconst 0, 1), (46, .iload_n 2, 1), (47, .invokestatic 123, 3), (50, .iload_n 2, 1), (51, .if_icmp .eq 6, 3), (54, .aload 5, 2), (56, .areturn, 1), (57, .aload_n 3, 1), (58, .areturn, 1)]
theorem hD_cmp3 : ∀ q ∈ D_cmp3, decode jdk_52_method_16_code q.1 = .ok q.2 := by decide +kernel
set_option maxRecDepth 65536 in
set_option maxHeartbeats 4000000 in
theorem c_cmp3 (l : Launch) (Z : State) (a0 : Array Value) (hw : ∀ d ∈ tables_1, d.before a0 Z = true) (hEL : EW Z a0 consts_1) (hJS : JS Z) (ty : Nat → Addr) (hTY : TY Z ty) {A : Addr} {cs : List Int32} {h : Heap} (oz : Ext Z.heap h) (FA : Ary Z h A .char cs) (hn : cs.length ≤ 2) (hL : IsL cs) : Ctr l Z consts_1 (⟨"java/lang/StringUTF16", "compress", "([CII)[B"⟩ : MethodName) jdk_52_method_16_code 6 (some (.array .byte)) [] ({ frames := 1, cells := 1, slots := 2, locals := 18 } : Room) [] #[(.ref A), (.int (0 : Int32)), (.int (Int32.ofNat cs.length))] h (fun v h' S => Keep h h' [] ∧ ∃ x, v = some (.ref x) ∧ ((IsL cs ∧ Ary Z h' x .byte (cs.map lo8)) ∨ (¬ IsL cs ∧ Ary Z h' x .byte (u16 cs)))) := by
  refine enter (a0 := a0) (by first | (simp [plainName, overriddenIn]; done) | decide +kernel) hEL (Ls := #[.val (.ref A), .val (.int (0 : Int32)), .val (.int (Int32.ofNat cs.length)), .unset, .unset, .unset]) (fun m => by first | (simp [entryFrame, mkF, argsToLocals, Value.category]; done) | rfl) ?_
  intro κ vm T hby hs w Sf
  have dc := Dec.of hby hD_cmp3
  show Go κ (GQ κ Z consts_1 ({ frames := 1, cells := 1, slots := 2, locals := 18 } : Room) (fun v h' S => Keep h h' [] ∧ ∃ x, v = some (.ref x) ∧ ((IsL cs ∧ Ary Z h' x .byte (cs.map lo8)) ∨ (¬ IsL cs ∧ Ary Z h' x .byte (u16 cs))))) T 0 #[.val (.ref A), .val (.int (0 : Int32)), .val (.int (Int32.ofNat cs.length)), .unset, .unset, .unset] []
  have ozs : Ext Z.heap κ.s.heap := by rw [hs]; exact oz
  have hIC := FA.isC
  refine blk (pc' := 1) (Ls' := #[.val (.ref A), .val (.int (0 : Int32)), .val (.int (Int32.ofNat cs.length)), .unset, .unset, .unset]) (st' := [(.int (Int32.ofNat cs.length))]) [oIloadN w.ok (dc.g 0 rfl)] rfl ?_
  refine w.newarr (aty := .byte) (wd hw 20 rfl) (dc.g 1 rfl) (c := cs.length) (nneg_ofNat (by omega)) (clamp_ofNat (by omega)) (cap := 2) (by first | decide | omega) (by first | decide | omega) (by decide) (by decide) rfl rfl ?_
  intro T10 h12 x13 w11 g14 E15 F16 S17
  show Go κ _ T10 3 #[.val (.ref A), .val (.int (0 : Int32)), .val (.int (Int32.ofNat cs.length)), .unset, .unset, .unset] [(.ref x13)]
  refine blk (pc' := 9) (Ls' := #[.val (.ref A), .val (.int (0 : Int32)), .val (.int (Int32.ofNat cs.length)), .val (.ref x13), .unset, .unset]) (st' := [(.int (Int32.ofNat cs.length)), (.int (0 : Int32)), (.ref x13), (.int (0 : Int32)), (.ref A)]) [oAstoreN w11.ok (dc.g 2 rfl), oAloadN w11.ok (dc.g 3 rfl), oIloadN w11.ok (dc.g 4 rfl), oAloadN w11.ok (dc.g 5 rfl), oIconst w11.ok (dc.g 6 rfl), oIloadN w11.ok (dc.g 7 rfl)] rfl ?_
  refine w11.callS (wd hw 65 rfl) (wd hw 66 rfl) (wd hw 63 rfl) (wd hw 67 rfl) (by decide) (argsL := [(.ref A), (.int (0 : Int32)), (.ref x13), (.int (0 : Int32)), (.int (Int32.ofNat cs.length))]) (Wd := 0) (Ctr.pays (len := 3) (Wd := 0) (c_cmp5 l Z a0 hw hEL hJS ty hTY (FA.ext E15) F16 (by rw [g14]; exact oz.1)) w11 (wd hw 67 rfl) (wd hw 63 rfl) hEL (by decide) (by decide) (sfOne F16.lt S17)) pd0 rfl (st := []) rfl rfl (Nat.le_of_eq rfl) (dc.g 8 rfl) (by decide) (by decide) ?_
  intro vm18 T19 h20 v21 w22 C23 Q24
  obtain ⟨r, hr, rfl, K2, hlt, hge, hall⟩ := Q24
  show Go κ _ T19 12 #[.val (.ref A), .val (.int (0 : Int32)), .val (.int (Int32.ofNat cs.length)), .val (.ref x13), .unset, .unset] [(.int (Int32.ofNat r))]
  refine blk (pc' := 17) (Ls' := #[.val (.ref A), .val (.int (0 : Int32)), .val (.int (Int32.ofNat cs.length)), .val (.ref x13), .val (.int (Int32.ofNat r)), .unset]) (st' := [(.int (Int32.ofNat cs.length)), (.int (Int32.ofNat r))]) [oIstore w22.ok (dc.g 9 rfl), oIload w22.ok (dc.g 10 rfl), oIloadN w22.ok (dc.g 11 rfl)] rfl ?_
  have K0 : Keep h h20 [] := ((Keep.refl h []).ext E15).trans K2 (allS (Or.inr (by rw [g14]; exact Nat.le_refl _)) all0)
  refine cEq (pc' := 57) w22.ok (dc.g 12 rfl) (by decide) (by decide) (fun hc25 => ?_) (fun hc25 => ?_)
  · show Go κ _ T19 57 #[.val (.ref A), .val (.int (0 : Int32)), .val (.int (Int32.ofNat cs.length)), .val (.ref x13), .val (.int (Int32.ofNat r)), .unset] []
    have er : r = cs.length := (ofNat_inj (by omega) (by omega)).mp hc25
    refine blk (pc' := 58) (Ls' := #[.val (.ref A), .val (.int (0 : Int32)), .val (.int (Int32.ofNat cs.length)), .val (.ref x13), .val (.int (Int32.ofNat r)), .unset]) (st' := [(.ref x13)]) [oAloadN w22.ok (dc.g 33 rfl)] rfl ?_
    exact w22.retA rfl rfl rfl rfl (dc.g 34 rfl) (by decide) (by decide) (fun S hS => ⟨K0, _, rfl, Or.inl ⟨isL_of hIC (by rw [← er]; exact hlt), hall er⟩⟩)
  · show Go κ _ T19 20 #[.val (.ref A), .val (.int (0 : Int32)), .val (.int (Int32.ofNat cs.length)), .val (.ref x13), .val (.int (Int32.ofNat r)), .unset] []
    have er : r < cs.length := (Nat.lt_or_eq_of_le hr).elim id (fun q => absurd (by rw [q]) hc25)
    obtain ⟨c, hc1, hc2⟩ := hge er
    exact absurd hL (not_isL hc1 hc2)
def D_codl : List (Nat × Instr × Nat) := [(0, .iload_n 1, 1), (1, .aload_n 0, 1), (2, .arraylength, 1), (3, .isub, 1), (4, .bipush 31, 2), (6, .iushr, 1), (7, .i2b, 1), (8, .ireturn, 1)]
theorem hD_codl : ∀ q ∈ D_codl, decode jdk_52_method_15_code q.1 = .ok q.2 := by decide +kernel
set_option maxRecDepth 65536 in
set_option maxHeartbeats 4000000 in
theorem c_codl (l : Launch) (Z : State) (a0 : Array Value) (hw : ∀ d ∈ tables_1, d.before a0 Z = true) (hEL : EW Z a0 consts_1) (hJS : JS Z) (ty : Nat → Addr) (hTY : TY Z ty) {y : Addr} {vs : List Int32} {n : Nat} {r : Int32} {h : Heap} (F : Ary Z h y .byte vs) (hm : (vs.length = n ∧ r = 0) ∨ (vs.length = 2 * n ∧ 0 < n ∧ r = 1)) : Ctr l Z consts_1 (⟨"java/lang/StringUTF16", "coderFromArrayLen", "([BI)B"⟩ : MethodName) jdk_52_method_15_code 2 (some .byte) [] ({ frames := 0, cells := 0, slots := 0, locals := 0 } : Room) [] #[(.ref y), (.int (Int32.ofNat n))] h (fun v h' S => h = h' ∧ v = some (.int r)) := by
  refine enter (a0 := a0) (by first | (simp [plainName, overriddenIn]; done) | decide +kernel) hEL (Ls := #[.val (.ref y), .val (.int (Int32.ofNat n))]) (fun m => by first | (simp [entryFrame, mkF, argsToLocals, Value.category]; done) | rfl) ?_
  intro κ vm T hby hs w Sf
  have dc := Dec.of hby hD_codl
  show Go κ (GQ κ Z consts_1 ({ frames := 0, cells := 0, slots := 0, locals := 0 } : Room) (fun v h' S => h = h' ∧ v = some (.int r))) T 0 #[.val (.ref y), .val (.int (Int32.ofNat n))] []
  have hN := F.small
  refine blk (pc' := 2) (Ls' := #[.val (.ref y), .val (.int (Int32.ofNat n))]) (st' := [(.ref y), (.int (Int32.ofNat n))]) [oIloadN w.ok (dc.g 0 rfl), oAloadN w.ok (dc.g 1 rfl)] rfl ?_
  refine w.len F (dc.g 2 rfl) ?_
  show Go κ _ T 3 #[.val (.ref y), .val (.int (Int32.ofNat n))] [(.int (Int32.ofNat vs.length)), (.int (Int32.ofNat n))]
  refine blk (pc' := 8) (Ls' := #[.val (.ref y), .val (.int (Int32.ofNat n))]) (st' := [(.int ((((((Int32.ofNat n) - (Int32.ofNat vs.length))).toUInt32 >>> ((31 : Int32) &&& 31).toUInt32).toInt32).toInt8.toInt32))]) [oIsub w.ok (dc.g 3 rfl), oBipush w.ok (dc.g 4 rfl), oIushr w.ok (dc.g 5 rfl), oI2b w.ok (dc.g 6 rfl)] rfl ?_
  have e : ((((((Int32.ofNat n) - (Int32.ofNat vs.length))).toUInt32 >>> ((31 : Int32) &&& 31).toUInt32).toInt32).toInt8.toInt32) = r := by
    rcases hm with ⟨q, rfl⟩ | ⟨q, q0, rfl⟩
    · rw [q]; exact cod0
    · rw [q] at hN ⊢; exact cod1 q0 hN
  rw [e]
  show Go κ _ T 8 #[.val (.ref y), .val (.int (Int32.ofNat n))] [(.int r)]
  exact w.retI (t := .byte) rfl (Or.inr (Or.inr (Or.inl rfl))) (by rcases hm with ⟨q, rfl⟩ | ⟨q, q0, rfl⟩ <;> rfl) (dc.g 7 rfl) (by decide) (by decide) (fun S hS => ⟨rfl, rfl⟩)
def D_si4 : List (Nat × Instr × Nat) := [(0, .aload_n 0, 1), (1, .invokespecial 1, 3), (4, .iload_n 3, 1), (5, .ifCond .ne 22, 3), (8, .aload_n 0, 1), (9, .ldc 7, 2), (11, .getfield 9, 3), (14, .putfield 9, 3), (17, .aload_n 0, 1), (18, .ldc 7, 2), (20, .getfield 15, 3), (23, .putfield 15, 3), (26, .return_, 1), (27, .getstatic 38, 3), (30, .ifCond .eq 28, 3), (33, .aload_n 1, 1), (34, .iload_n 2, 1), (35, .iload_n 3, 1), (36, .invokestatic 177, 3), (39, .astore 5, 2), (41, .aload_n 0, 1), (42, .aload 5, 2), (44, .iload_n 3, 1), (45, .invokestatic 47, 3), (48, .putfield 15, 3), (51, .aload_n 0, 1), (52, .aload 5, 2), (54, .putfield 9, 3), (57, .return_, 1), (58, .aload_n 0, 1), (59, .iconst 1, 1), (60, .putfield 15, 3), (63, .aload_n 0, 1), (64, .aload_n 1, 1), (65, .iload_n 2, 1), (66, .iload_n 3, 1), (67, .invokestatic 180, 3), (70, .putfield 9, 3), (73, .return_, 1)]
theorem hD_si4 : ∀ q ∈ D_si4, decode jdk_42_method_149_code q.1 = .ok q.2 := by decide +kernel
set_option maxRecDepth 65536 in
set_option maxHeartbeats 4000000 in
theorem c_si4 (l : Launch) (Z : State) (a0 : Array Value) (hw : ∀ d ∈ tables_1, d.before a0 Z = true) (hEL : EW Z a0 consts_1) (hJS : JS Z) (ty : Nat → Addr) (hTY : TY Z ty) {x A : Addr} {cs : List Int32} {h : Heap} (oz : Ext Z.heap h) (X : Exa Z h x "java/lang/String") (FV : Fld Z h x "java/lang/String" "value" "[B" .null) (FC : Fld Z h x "java/lang/String" "coder" "B" (.int 0)) (hx0 : Z.heap.size ≤ x) (FA : Ary Z h A .char cs) (hn : cs.length ≤ 2) (hL : IsL cs) : Ctr l Z consts_1 (⟨"java/lang/String", "<init>", "([CIILjava/lang/Void;)V"⟩ : MethodName) jdk_42_method_149_code 6 none [] ({ frames := 2, cells := 4, slots := 8, locals := 36 } : Room) [x] #[(.ref x), (.ref A), (.int (0 : Int32)), (.int (Int32.ofNat cs.length)), .null] h (fun v h' S => v = none ∧ Keep h h' [x] ∧ Str Z h' x cs) := by
  refine enter (a0 := a0) (by first | (simp [plainName, overriddenIn]; done) | decide +kernel) hEL (Ls := #[.val (.ref x), .val (.ref A), .val (.int (0 : Int32)), .val (.int (Int32.ofNat cs.length)), .val .null, .unset]) (fun m => by first | (simp [entryFrame, mkF, argsToLocals, Value.category]; done) | rfl) ?_
  intro κ vm T hby hs w Sf
  have dc := Dec.of hby hD_si4
  show Go κ (GQ κ Z consts_1 ({ frames := 2, cells := 4, slots := 8, locals := 36 } : Room) (fun v h' S => v = none ∧ Keep h h' [x] ∧ Str Z h' x cs)) T 0 #[.val (.ref x), .val (.ref A), .val (.int (0 : Int32)), .val (.int (Int32.ofNat cs.length)), .val .null, .unset] []
  have ozs : Ext Z.heap κ.s.heap := by rw [hs]; exact oz
  have S0 := Sf x (List.mem_singleton.mpr rfl)
  have hIC := FA.isC
  refine blk (pc' := 1) (Ls' := #[.val (.ref x), .val (.ref A), .val (.int (0 : Int32)), .val (.int (Int32.ofNat cs.length)), .val .null, .unset]) (st' := [(.ref x)]) [oAloadN w.ok (dc.g 0 rfl)] rfl ?_
  refine w.initO (wd hw 16 rfl) (wd hw 17 rfl) (wd hw 18 rfl) rfl (dc.g 1 rfl) (by decide) (Wd := 0) (Nat.le_of_eq rfl) (by decide) ?_
  intro T26 w27
  show Go κ _ T26 4 #[.val (.ref x), .val (.ref A), .val (.int (0 : Int32)), .val (.int (Int32.ofNat cs.length)), .val .null, .unset] []
  refine blk (pc' := 5) (Ls' := #[.val (.ref x), .val (.ref A), .val (.int (0 : Int32)), .val (.int (Int32.ofNat cs.length)), .val .null, .unset]) (st' := [(.int (Int32.ofNat cs.length))]) [oIloadN w27.ok (dc.g 2 rfl)] rfl ?_
  refine zNe (pc' := 27) w27.ok (dc.g 3 rfl) (by decide) (by decide) (fun hc28 => ?_) (fun hc28 => ?_)
  · show Go κ _ T26 27 #[.val (.ref x), .val (.ref A), .val (.int (0 : Int32)), .val (.int (Int32.ofNat cs.length)), .val .null, .unset] []
    have hpos : 0 < cs.length := Nat.pos_of_ne_zero fun q => hc28 (by rw [q]; rfl)
    obtain ⟨⟨zc, hcs, hcz⟩, -⟩ := id hJS
    refine w27.gets (wd hw 60 rfl) (hcs.ext (w27.old ozs)) (dc.g 13 rfl) ?_
    intro T29 w30
    show Go κ _ T29 30 #[.val (.ref x), .val (.ref A), .val (.int (0 : Int32)), .val (.int (Int32.ofNat cs.length)), .val .null, .unset] [(.int zc)]
    refine zEq (pc' := 58) w30.ok (dc.g 14 rfl) (by decide) (by decide) (fun hc31 => absurd hc31 hcz) (fun hc31 => ?_)
    show Go κ _ T29 33 #[.val (.ref x), .val (.ref A), .val (.int (0 : Int32)), .val (.int (Int32.ofNat cs.length)), .val .null, .unset] []
    refine blk (pc' := 36) (Ls' := #[.val (.ref x), .val (.ref A), .val (.int (0 : Int32)), .val (.int (Int32.ofNat cs.length)), .val .null, .unset]) (st' := [(.int (Int32.ofNat cs.length)), (.int (0 : Int32)), (.ref A)]) [oAloadN w30.ok (dc.g 15 rfl), oIloadN w30.ok (dc.g 16 rfl), oIloadN w30.ok (dc.g 17 rfl)] rfl ?_
    refine w30.callS (wd hw 61 rfl) (wd hw 62 rfl) (wd hw 63 rfl) (wd hw 64 rfl) (by decide) (argsL := [(.ref A), (.int (0 : Int32)), (.int (Int32.ofNat cs.length))]) (Wd := 0) (Ctr.pays (len := 3) (Wd := 0) (c_cmp3 l Z a0 hw hEL hJS ty hTY (w30.old ozs) FA hn hL) w30 (wd hw 64 rfl) (wd hw 63 rfl) hEL (by decide) (by decide) sfNil) pd1 rfl (st := []) rfl rfl (Nat.le_of_eq rfl) (dc.g 18 rfl) (by decide) (by decide) ?_
    intro vm32 T33 h34 v35 w36 C37 Q38
    obtain ⟨K2, y, rfl, hy⟩ := Q38
    show Go κ _ T33 39 #[.val (.ref x), .val (.ref A), .val (.int (0 : Int32)), .val (.int (Int32.ofNat cs.length)), .val .null, .unset] [(.ref y)]
    refine blk (pc' := 45) (Ls' := #[.val (.ref x), .val (.ref A), .val (.int (0 : Int32)), .val (.int (Int32.ofNat cs.length)), .val .null, .val (.ref y)]) (st' := [(.int (Int32.ofNat cs.length)), (.ref y), (.ref x)]) [oAstore w36.ok (dc.g 19 rfl), oAloadN w36.ok (dc.g 20 rfl), oAload w36.ok (dc.g 21 rfl), oIloadN w36.ok (dc.g 22 rfl)] rfl ?_
    obtain ⟨vs, r, FY, hm, hst⟩ : ∃ (vs : List Int32) (r : Int32), Ary Z h34 y .byte vs ∧ ((vs.length = cs.length ∧ r = 0) ∨ (vs.length = 2 * cs.length ∧ 0 < cs.length ∧ r = 1)) ∧ ((IsL cs ∧ r = 0 ∧ vs = cs.map lo8) ∨ (¬ IsL cs ∧ r = 1 ∧ vs = u16 cs)) := by
      rcases hy with ⟨q1, q2⟩ | ⟨q1, q2⟩
      · exact ⟨_, 0, q2, Or.inl ⟨by simp, rfl⟩, Or.inl ⟨q1, rfl, rfl⟩⟩
      · exact ⟨_, 1, q2, Or.inr ⟨u16_len _, hpos, rfl⟩, Or.inr ⟨q1, rfl, rfl⟩⟩
    have hr : narrow .byte (.int r) = .int r ∧ fits .byte (.int r) = true := by rcases hm with ⟨-, rfl⟩ | ⟨-, -, rfl⟩ <;> exact ⟨rfl, rfl⟩
    refine w36.callS (wd hw 68 rfl) (wd hw 69 rfl) (wd hw 63 rfl) (wd hw 70 rfl) (by decide) (argsL := [(.ref y), (.int (Int32.ofNat cs.length))]) (Wd := 1) (Ctr.pays (len := 3) (Wd := 1) (c_codl l Z a0 hw hEL hJS ty hTY FY hm) w36 (wd hw 70 rfl) (wd hw 63 rfl) hEL (by decide) (by decide) sfNil) pd2 rfl (st := [(.ref x)]) rfl rfl (Nat.le_of_eq rfl) (dc.g 23 rfl) (by decide) (by decide) ?_
    intro vm39 T40 h41 v42 w43 C44 Q45
    obtain ⟨e3, rfl⟩ := Q45
    subst e3
    show Go κ _ T40 48 #[.val (.ref x), .val (.ref A), .val (.int (0 : Int32)), .val (.int (Int32.ofNat cs.length)), .val .null, .val (.ref y)] [(.int r), (.ref x)]
    have S1 := C44.safe (Nat.lt_of_lt_of_le X.lt K2.1) (C37.safe X.lt S0)
    have X1 := X.keep K2
    have FC1 := FC.keep K2 nin0
    have FV1 := FV.keep K2 nin0
    have hyx : y ≠ x := FY.ne_exa X1 (wd hw 6 rfl)
    refine w43.put (wd hw 26 rfl) FC1 X1 (Or.inr ⟨(wd hw 22 rfl), rfl, rfl⟩) (wd hw 6 rfl) (ty := .byte) (by decide) (hr).1 (hr).2 S1 hx0 (dc.g 24 rfl) ?_
    intro T46 h48 w47 W49 S50
    show Go κ _ T46 51 #[.val (.ref x), .val (.ref A), .val (.int (0 : Int32)), .val (.int (Int32.ofNat cs.length)), .val .null, .val (.ref y)] []
    have X2 := X1.wr W49
    have FV2 := FV1.other W49 (Or.inr (slot_ne (Or.inr (wd hw 21 rfl)) (Or.inr (wd hw 22 rfl)) (by decide) (t := .array .byte) (by decide) (t' := .byte) (by decide)))
    have FC2 : Fld Z h48 x "java/lang/String" "coder" "B" (.int r) := FC1.same W49
    have FY2 := FY.other W49 hyx
    refine blk (pc' := 54) (Ls' := #[.val (.ref x), .val (.ref A), .val (.int (0 : Int32)), .val (.int (Int32.ofNat cs.length)), .val .null, .val (.ref y)]) (st' := [(.ref y), (.ref x)]) [oAloadN w47.ok (dc.g 25 rfl), oAload w47.ok (dc.g 26 rfl)] rfl ?_
    refine w47.put (wd hw 25 rfl) FV2 X2 (Or.inr ⟨(wd hw 21 rfl), rfl, rfl⟩) (wd hw 6 rfl) (ty := (.array .byte)) (by decide) rfl rfl S50 hx0 (dc.g 27 rfl) ?_
    intro T51 h53 w52 W54 S55
    show Go κ _ T51 57 #[.val (.ref x), .val (.ref A), .val (.int (0 : Int32)), .val (.int (Int32.ofNat cs.length)), .val .null, .val (.ref y)] []
    have X3 := X2.wr W54
    have FC3 := FC2.other W54 (Or.inr (slot_ne (Or.inr (wd hw 22 rfl)) (Or.inr (wd hw 21 rfl)) (by decide) (t := .byte) (by decide) (t' := .array .byte) (by decide)))
    have FV3 : Fld Z h53 x "java/lang/String" "value" "[B" (.ref y) := FV2.same W54
    have FY3 := FY2.other W54 hyx
    exact w52.retV (dc.g 28 rfl) (by decide) (by decide) (fun S hS => ⟨rfl, ((((Keep.refl h [x]).trans K2 all0).wr W49 (Or.inl (List.mem_of_getElem? (i := 0) rfl))).wr W54 (Or.inl (List.mem_of_getElem? (i := 0) rfl))), y, X3, FV3, hIC, by omega, by rcases hst with ⟨q1, rfl, rfl⟩ | ⟨q1, rfl, rfl⟩ <;> first | exact Or.inl ⟨q1, FC3, FY3⟩ | exact Or.inr ⟨q1, FC3, FY3⟩⟩)
  · show Go κ _ T26 8 #[.val (.ref x), .val (.ref A), .val (.int (0 : Int32)), .val (.int (Int32.ofNat cs.length)), .val .null, .unset] []
    have e0 : cs = [] := by have := hn; cases cs with | nil => rfl | cons c cs => exact absurd hc28 (by rw [show (0 : Int32) = Int32.ofNat 0 from rfl, ofNat_inj (by simp at this ⊢; omega) (by decide)]; simp)
    subst e0
    refine blk (pc' := 9) (Ls' := #[.val (.ref x), .val (.ref A), .val (.int (0 : Int32)), .val (.int (Int32.ofNat ([] : List Int32).length)), .val .null, .unset]) (st' := [(.ref x)]) [oAloadN w27.ok (dc.g 4 rfl)] rfl ?_
    refine w27.ldcC (wd hw 19 rfl) (own_str hw) hEL (by decide) (vs := []) (by decide) (by decide) (dc.g 5 rfl) (c := 0) (by decide) (by decide) (by decide) (by decide) ?_
    intro vm56 T57 h58 a59 b60 w61 E62 C63 f64 f65 f66 f67 f68
    show Go κ _ T57 11 #[.val (.ref x), .val (.ref A), .val (.int (0 : Int32)), .val (.int (Int32.ofNat ([] : List Int32).length)), .val .null, .unset] [(.ref a59), (.ref x)]
    have S1 := C63.safe X.lt S0
    refine w61.get (wd hw 25 rfl) f66 (dc.g 6 rfl) ?_
    intro T69 w70
    show Go κ _ T69 14 #[.val (.ref x), .val (.ref A), .val (.int (0 : Int32)), .val (.int (Int32.ofNat ([] : List Int32).length)), .val .null, .unset] [(.ref b60), (.ref x)]
    have X1 := X.ext E62
    refine w70.put (wd hw 25 rfl) (FV.ext E62) X1 (Or.inr ⟨(wd hw 21 rfl), rfl, rfl⟩) (wd hw 6 rfl) (ty := (.array .byte)) (by decide) rfl rfl S1 hx0 (dc.g 7 rfl) ?_
    intro T71 h73 w72 W74 S75
    show Go κ _ T71 17 #[.val (.ref x), .val (.ref A), .val (.int (0 : Int32)), .val (.int (Int32.ofNat ([] : List Int32).length)), .val .null, .unset] []
    have hne := f68 x S1
    have X2 := X1.wr W74
    have FV2 : Fld Z h73 x "java/lang/String" "value" "[B" (.ref b60) := (FV.ext E62).same W74
    have FC2 := (FC.ext E62).other W74 (Or.inr (slot_ne (Or.inr (wd hw 22 rfl)) (Or.inr (wd hw 21 rfl)) (by decide) (t := .byte) (by decide) (t' := .array .byte) (by decide)))
    have FB2 := f67.other W74 (Ne.symm hne.2)
    have S2 := S75
    refine blk (pc' := 18) (Ls' := #[.val (.ref x), .val (.ref A), .val (.int (0 : Int32)), .val (.int (Int32.ofNat ([] : List Int32).length)), .val .null, .unset]) (st' := [(.ref x)]) [oAloadN w72.ok (dc.g 8 rfl)] rfl ?_
    refine w72.ldcC (wd hw 19 rfl) (own_str hw) hEL (by decide) (vs := []) (by decide) (by decide) (dc.g 9 rfl) (c := 0) (by decide) (by decide) (by decide) (by decide) ?_
    intro vm76 T77 h78 a79 b80 w81 E82 C83 f84 f85 f86 f87 f88
    show Go κ _ T77 20 #[.val (.ref x), .val (.ref A), .val (.int (0 : Int32)), .val (.int (Int32.ofNat ([] : List Int32).length)), .val .null, .unset] [(.ref a79), (.ref x)]
    have S3 := C83.safe X2.lt S2
    refine w81.get (wd hw 26 rfl) f85 (dc.g 10 rfl) ?_
    intro T89 w90
    show Go κ _ T89 23 #[.val (.ref x), .val (.ref A), .val (.int (0 : Int32)), .val (.int (Int32.ofNat ([] : List Int32).length)), .val .null, .unset] [(.int (0 : Int32)), (.ref x)]
    have X3 := X2.ext E82
    refine w90.put (wd hw 26 rfl) (FC2.ext E82) X3 (Or.inr ⟨(wd hw 22 rfl), rfl, rfl⟩) (wd hw 6 rfl) (ty := .byte) (by decide) rfl rfl S3 hx0 (dc.g 11 rfl) ?_
    intro T91 h93 w92 W94 S95
    show Go κ _ T91 26 #[.val (.ref x), .val (.ref A), .val (.int (0 : Int32)), .val (.int (Int32.ofNat ([] : List Int32).length)), .val .null, .unset] []
    have FC4 : Fld Z h93 x "java/lang/String" "coder" "B" (.int 0) := (FC2.ext E82).same W94
    have FV4 := (FV2.ext E82).other W94 (Or.inr (slot_ne (Or.inr (wd hw 21 rfl)) (Or.inr (wd hw 22 rfl)) (by decide) (t := .array .byte) (by decide) (t' := .byte) (by decide)))
    have hbx : b60 ≠ x := f67.ne_exa X1 (wd hw 6 rfl)
    have FB4 := (FB2.ext E82).other W94 hbx
    exact w92.retV (dc.g 12 rfl) (by decide) (by decide) (fun S hS => ⟨rfl, ((((Keep.refl h [x]).ext E62).wr W74 (Or.inl (List.mem_of_getElem? (i := 0) rfl))).ext E82).wr W94 (Or.inl (List.mem_of_getElem? (i := 0) rfl)), b60, X3.wr W94, FV4, hIC, by decide, Or.inl ⟨(fun c hc => nomatch hc), FC4, FB4⟩⟩)
def D_si1 : List (Nat × Instr × Nat) := [(0, .aload_n 0, 1), (1, .aload_n 1, 1), (2, .iconst 0, 1), (3, .aload_n 1, 1), (4, .arraylength, 1), (5, .aconst_null, 1), (6, .invokespecial 27, 3), (9, .return_, 1)]
theorem hD_si1 : ∀ q ∈ D_si1, decode jdk_42_method_3_code q.1 = .ok q.2 := by decide +kernel
set_option maxRecDepth 65536 in
set_option maxHeartbeats 4000000 in
theorem c_si1 (l : Launch) (Z : State) (a0 : Array Value) (hw : ∀ d ∈ tables_1, d.before a0 Z = true) (hEL : EW Z a0 consts_1) (hJS : JS Z) (ty : Nat → Addr) (hTY : TY Z ty) {x A : Addr} {cs : List Int32} {h : Heap} (oz : Ext Z.heap h) (X : Exa Z h x "java/lang/String") (FV : Fld Z h x "java/lang/String" "value" "[B" .null) (FC : Fld Z h x "java/lang/String" "coder" "B" (.int 0)) (hx0 : Z.heap.size ≤ x) (FA : Ary Z h A .char cs) (hn : cs.length ≤ 2) (hL : IsL cs) : Ctr l Z consts_1 (⟨"java/lang/String", "<init>", "([C)V"⟩ : MethodName) jdk_42_method_3_code 2 none [] ({ frames := 3, cells := 4, slots := 8, locals := 53 } : Room) [x] #[(.ref x), (.ref A)] h (fun v h' S => v = none ∧ Keep h h' [x] ∧ Str Z h' x cs) := by
  refine enter (a0 := a0) (by first | (simp [plainName, overriddenIn]; done) | decide +kernel) hEL (Ls := #[.val (.ref x), .val (.ref A)]) (fun m => by first | (simp [entryFrame, mkF, argsToLocals, Value.category]; done) | rfl) ?_
  intro κ vm T hby hs w Sf
  have dc := Dec.of hby hD_si1
  show Go κ (GQ κ Z consts_1 ({ frames := 3, cells := 4, slots := 8, locals := 53 } : Room) (fun v h' S => v = none ∧ Keep h h' [x] ∧ Str Z h' x cs)) T 0 #[.val (.ref x), .val (.ref A)] []
  refine blk (pc' := 4) (Ls' := #[.val (.ref x), .val (.ref A)]) (st' := [(.ref A), (.int (0 : Int32)), (.ref A), (.ref x)]) [oAloadN w.ok (dc.g 0 rfl), oAloadN w.ok (dc.g 1 rfl), oIconst w.ok (dc.g 2 rfl), oAloadN w.ok (dc.g 3 rfl)] rfl ?_
  refine w.len FA (dc.g 4 rfl) ?_
  show Go κ _ T 5 #[.val (.ref x), .val (.ref A)] [(.int (Int32.ofNat cs.length)), (.int (0 : Int32)), (.ref A), (.ref x)]
  refine blk (pc' := 6) (Ls' := #[.val (.ref x), .val (.ref A)]) (st' := [.null, (.int (Int32.ofNat cs.length)), (.int (0 : Int32)), (.ref A), (.ref x)]) [oAnull w.ok (dc.g 5 rfl)] rfl ?_
  refine w.callI rfl (wd hw 12 rfl) (wd hw 13 rfl) (wd hw 15 rfl) (by decide) (a := x) (argsL := [(.ref A), (.int (0 : Int32)), (.int (Int32.ofNat cs.length)), .null]) (Wd := 0) (Ctr.pays (len := 3) (Wd := 0) (c_si4 l Z a0 hw hEL hJS ty hTY oz X FV FC hx0 FA hn hL) w (wd hw 15 rfl) (wd hw 7 rfl) hEL (by decide) (by decide) (sfOne X.lt (Sf x (List.mem_singleton.mpr rfl)))) pd3 rfl (st := []) rfl rfl (Nat.le_of_eq rfl) (dc.g 6 rfl) (by decide) (by decide) ?_
  intro vm96 T97 h98 v99 w100 C101 Q102
  obtain ⟨rfl, q2⟩ := Q102
  show Go κ _ T97 9 #[.val (.ref x), .val (.ref A)] []
  exact w100.retV (dc.g 7 rfl) (by decide) (by decide) (fun S hS => ⟨rfl, q2⟩)
def D_leq : List (Nat × Instr × Nat) := [(0, .aload_n 0, 1), (1, .arraylength, 1), (2, .aload_n 1, 1), (3, .arraylength, 1), (4, .if_icmp .ne 30, 3), (7, .iconst 0, 1), (8, .istore_n 2, 1), (9, .iload_n 2, 1), (10, .aload_n 0, 1), (11, .arraylength, 1), (12, .if_icmp .ge 20, 3), (15, .aload_n 0, 1), (16, .iload_n 2, 1), (17, .baload, 1), (18, .aload_n 1, 1), (19, .iload_n 2, 1), (20, .baload, 1), (21, .if_icmp .eq 5, 3), (24, .iconst 0, 1), (25, .ireturn, 1), (26, .iinc 2 1, 3), (29, .goto (-20), 3), (32, .iconst 1, 1), (33, .ireturn, 1), (34, .iconst 0, 1), (35, .ireturn, 1)]
theorem hD_leq : ∀ q ∈ D_leq, decode jdk_43_method_13_code q.1 = .ok q.2 := by decide +kernel
set_option maxRecDepth 65536 in
set_option maxHeartbeats 4000000 in
theorem c_leq (l : Launch) (Z : State) (a0 : Array Value) (hw : ∀ d ∈ tables_1, d.before a0 Z = true) (hEL : EW Z a0 consts_1) (hJS : JS Z) (ty : Nat → Addr) (hTY : TY Z ty) {x y : Addr} {us vs : List Int32} {h : Heap} (F : Ary Z h x .byte us) (G : Ary Z h y .byte vs) : Ctr l Z consts_1 (⟨"java/lang/StringLatin1", "equals", "([B[B)Z"⟩ : MethodName) jdk_43_method_13_code 3 (some .boolean) [] ({ frames := 0, cells := 0, slots := 0, locals := 0 } : Room) [] #[(.ref x), (.ref y)] h (fun v h' S => h = h' ∧ v = some (.int (if us = vs then 1 else 0))) := by
  refine enter (a0 := a0) (by first | (simp [plainName, overriddenIn]; done) | decide +kernel) hEL (Ls := #[.val (.ref x), .val (.ref y), .unset]) (fun m => by first | (simp [entryFrame, mkF, argsToLocals, Value.category]; done) | rfl) ?_
  intro κ vm T hby hs w Sf
  have dc := Dec.of hby hD_leq
  show Go κ (GQ κ Z consts_1 ({ frames := 0, cells := 0, slots := 0, locals := 0 } : Room) (fun v h' S => h = h' ∧ v = some (.int (if us = vs then 1 else 0)))) T 0 #[.val (.ref x), .val (.ref y), .unset] []
  have hN := F.small
  have hM := G.small
  refine blk (pc' := 1) (Ls' := #[.val (.ref x), .val (.ref y), .unset]) (st' := [(.ref x)]) [oAloadN w.ok (dc.g 0 rfl)] rfl ?_
  refine w.len F (dc.g 1 rfl) ?_
  show Go κ _ T 2 #[.val (.ref x), .val (.ref y), .unset] [(.int (Int32.ofNat us.length))]
  refine blk (pc' := 3) (Ls' := #[.val (.ref x), .val (.ref y), .unset]) (st' := [(.ref y), (.int (Int32.ofNat us.length))]) [oAloadN w.ok (dc.g 2 rfl)] rfl ?_
  refine w.len G (dc.g 3 rfl) ?_
  show Go κ _ T 4 #[.val (.ref x), .val (.ref y), .unset] [(.int (Int32.ofNat vs.length)), (.int (Int32.ofNat us.length))]
  refine cNe (pc' := 34) w.ok (dc.g 4 rfl) (by decide) (by decide) (fun hc103 => ?_) (fun hc103 => ?_)
  · show Go κ _ T 34 #[.val (.ref x), .val (.ref y), .unset] []
    refine blk (pc' := 35) (Ls' := #[.val (.ref x), .val (.ref y), .unset]) (st' := [(.int (0 : Int32))]) [oIconst w.ok (dc.g 24 rfl)] rfl ?_
    exact w.retI (t := .boolean) rfl (Or.inr (Or.inl rfl)) rfl (dc.g 25 rfl) (by decide) (by decide) (fun S hS => ⟨rfl, by rw [if_neg (fun q => hc103 (by rw [q]))]⟩)
  · show Go κ _ T 7 #[.val (.ref x), .val (.ref y), .unset] []
    have el : us.length = vs.length := (ofNat_inj hN hM).mp hc103
    have key : ∀ (f i : Nat), i + f = us.length → us.take i = vs.take i → Go κ (GQ κ Z consts_1 ({ frames := 0, cells := 0, slots := 0, locals := 0 } : Room) (fun v h' S => h = h' ∧ v = some (.int (if us = vs then 1 else 0)))) T 9 #[.val (.ref x), .val (.ref y), .val (.int (Int32.ofNat i))] [] := by
      intro f
      induction f with
      | zero =>
        intro i hi ht
        refine blk (pc' := 11) (Ls' := #[.val (.ref x), .val (.ref y), .val (.int (Int32.ofNat i))]) (st' := [(.ref x), (.int (Int32.ofNat i))]) [oIloadN w.ok (dc.g 7 rfl), oAloadN w.ok (dc.g 8 rfl)] rfl ?_
        refine w.len F (dc.g 9 rfl) ?_
        show Go κ _ T 12 #[.val (.ref x), .val (.ref y), .val (.int (Int32.ofNat i))] [(.int (Int32.ofNat us.length)), (.int (Int32.ofNat i))]
        refine cGe (pc' := 32) w.ok (dc.g 10 rfl) (by decide) (by decide) (fun hc104 => ?_) (fun hc104 => absurd hc104 (fun q => absurd q (by rw [ofNat_lt (by omega) hN]; omega)))
        show Go κ _ T 32 #[.val (.ref x), .val (.ref y), .val (.int (Int32.ofNat i))] []
        refine blk (pc' := 33) (Ls' := #[.val (.ref x), .val (.ref y), .val (.int (Int32.ofNat i))]) (st' := [(.int (1 : Int32))]) [oIconst w.ok (dc.g 22 rfl)] rfl ?_
        exact w.retI (t := .boolean) rfl (Or.inr (Or.inl rfl)) rfl (dc.g 23 rfl) (by decide) (by decide) (fun S hS => ⟨rfl, by rw [if_pos (by rw [List.take_of_length_le (by omega), List.take_of_length_le (by omega)] at ht; exact ht)]⟩)
      | succ f ih =>
        intro i hi ht
        obtain ⟨c, hc⟩ : ∃ c, us[i]? = some c := ⟨_, List.getElem?_eq_getElem (by omega)⟩
        obtain ⟨e, he⟩ : ∃ e, vs[i]? = some e := ⟨_, List.getElem?_eq_getElem (by omega)⟩
        refine blk (pc' := 11) (Ls' := #[.val (.ref x), .val (.ref y), .val (.int (Int32.ofNat i))]) (st' := [(.ref x), (.int (Int32.ofNat i))]) [oIloadN w.ok (dc.g 7 rfl), oAloadN w.ok (dc.g 8 rfl)] rfl ?_
        refine w.len F (dc.g 9 rfl) ?_
        show Go κ _ T 12 #[.val (.ref x), .val (.ref y), .val (.int (Int32.ofNat i))] [(.int (Int32.ofNat us.length)), (.int (Int32.ofNat i))]
        refine cGe (pc' := 32) w.ok (dc.g 10 rfl) (by decide) (by decide) (fun hc105 => absurd ((ofNat_lt (by omega) hN).mpr (by omega)) hc105) (fun hc105 => ?_)
        show Go κ _ T 15 #[.val (.ref x), .val (.ref y), .val (.int (Int32.ofNat i))] []
        refine blk (pc' := 17) (Ls' := #[.val (.ref x), .val (.ref y), .val (.int (Int32.ofNat i))]) (st' := [(.int (Int32.ofNat i)), (.ref x)]) [oAloadN w.ok (dc.g 11 rfl), oIloadN w.ok (dc.g 12 rfl)] rfl ?_
        refine w.bld F (i := i) rfl hc (dc.g 13 rfl) ?_
        show Go κ _ T 18 #[.val (.ref x), .val (.ref y), .val (.int (Int32.ofNat i))] [(.int c)]
        refine blk (pc' := 20) (Ls' := #[.val (.ref x), .val (.ref y), .val (.int (Int32.ofNat i))]) (st' := [(.int (Int32.ofNat i)), (.ref y), (.int c)]) [oAloadN w.ok (dc.g 14 rfl), oIloadN w.ok (dc.g 15 rfl)] rfl ?_
        refine w.bld G (i := i) rfl he (dc.g 16 rfl) ?_
        show Go κ _ T 21 #[.val (.ref x), .val (.ref y), .val (.int (Int32.ofNat i))] [(.int e), (.int c)]
        refine cEq (pc' := 26) w.ok (dc.g 17 rfl) (by decide) (by decide) (fun hc106 => ?_) (fun hc106 => ?_)
        · show Go κ _ T 26 #[.val (.ref x), .val (.ref y), .val (.int (Int32.ofNat i))] []
          refine blk (pc' := 9) (Ls' := #[.val (.ref x), .val (.ref y), .val (.int ((Int32.ofNat i) + (1 : Int32)))]) (st' := []) [oIinc w.ok (dc.g 20 rfl), oGoto w.ok 9 (dc.g 21 rfl)] rfl ?_
          rw [ofNat_succ]
          exact ih (i + 1) (by omega) (by rw [take_succ hc, take_succ he, ht, hc106])
        · show Go κ _ T 24 #[.val (.ref x), .val (.ref y), .val (.int (Int32.ofNat i))] []
          refine blk (pc' := 25) (Ls' := #[.val (.ref x), .val (.ref y), .val (.int (Int32.ofNat i))]) (st' := [(.int (0 : Int32))]) [oIconst w.ok (dc.g 18 rfl)] rfl ?_
          exact w.retI (t := .boolean) rfl (Or.inr (Or.inl rfl)) rfl (dc.g 19 rfl) (by decide) (by decide) (fun S hS => ⟨rfl, by rw [if_neg (fun q => hc106 (by rw [q, he] at hc; exact (Option.some.inj hc).symm))]⟩)
    refine blk (pc' := 9) (Ls' := #[.val (.ref x), .val (.ref y), .val (.int (0 : Int32))]) (st' := []) [oIconst w.ok (dc.g 5 rfl), oIstoreN w.ok (dc.g 6 rfl)] rfl ?_
    exact key us.length 0 (by omega) rfl
def D_eqs : List (Nat × Instr × Nat) := [(0, .aload_n 0, 1), (1, .aload_n 1, 1), (2, .if_acmp .ne 5, 3), (5, .iconst 1, 1), (6, .ireturn, 1), (7, .aload_n 1, 1), (8, .instanceof 10, 3), (11, .ifCond .eq 43, 3), (14, .aload_n 1, 1), (15, .checkcast 10, 3), (18, .astore_n 2, 1), (19, .getstatic 38, 3), (22, .ifCond .eq 14, 3), (25, .aload_n 0, 1), (26, .getfield 15, 3), (29, .aload_n 2, 1), (30, .getfield 15, 3), (33, .if_icmp .ne 21, 3), (36, .aload_n 0, 1), (37, .getfield 9, 3), (40, .aload_n 2, 1), (41, .getfield 9, 3), (44, .invokestatic 541, 3), (47, .ifCond .eq 7, 3), (50, .iconst 1, 1), (51, .goto 4, 3), (54, .iconst 0, 1), (55, .ireturn, 1)]
theorem hD_eqs : ∀ q ∈ D_eqs, decode jdk_42_method_66_code q.1 = .ok q.2 := by decide +kernel
set_option maxRecDepth 65536 in
set_option maxHeartbeats 4000000 in
theorem c_eqs (l : Launch) (Z : State) (a0 : Array Value) (hw : ∀ d ∈ tables_1, d.before a0 Z = true) (hEL : EW Z a0 consts_1) (hJS : JS Z) (ty : Nat → Addr) (hTY : TY Z ty) {x y : Addr} {cs ds : List Int32} {h : Heap} (oz : Ext Z.heap h) (F : Str Z h x cs) (G : Str Z h y ds) (hL : IsL cs) (hM : IsL ds) : Ctr l Z consts_1 (⟨"java/lang/String", "equals", "(Ljava/lang/Object;)Z"⟩ : MethodName) jdk_42_method_66_code 3 (some .boolean) [] ({ frames := 1, cells := 0, slots := 0, locals := 14 } : Room) [] #[(.ref x), (.ref y)] h (fun v h' S => h = h' ∧ v = some (.int (if cs = ds then 1 else 0))) := by
  refine enter (a0 := a0) (by first | (simp [plainName, overriddenIn]; done) | decide +kernel) hEL (Ls := #[.val (.ref x), .val (.ref y), .unset]) (fun m => by first | (simp [entryFrame, mkF, argsToLocals, Value.category]; done) | rfl) ?_
  intro κ vm T hby hs w Sf
  have dc := Dec.of hby hD_eqs
  show Go κ (GQ κ Z consts_1 ({ frames := 1, cells := 0, slots := 0, locals := 14 } : Room) (fun v h' S => h = h' ∧ v = some (.int (if cs = ds then 1 else 0)))) T 0 #[.val (.ref x), .val (.ref y), .unset] []
  have ozs : Ext Z.heap κ.s.heap := by rw [hs]; exact oz
  obtain ⟨⟨zc, hcs, hcz⟩, -⟩ := id hJS
  obtain ⟨u, f1, f2, f3⟩ := F.lat hL
  obtain ⟨t, g1, g2, g3⟩ := G.lat hM
  refine blk (pc' := 2) (Ls' := #[.val (.ref x), .val (.ref y), .unset]) (st' := [(.ref y), (.ref x)]) [oAloadN w.ok (dc.g 0 rfl), oAloadN w.ok (dc.g 1 rfl)] rfl ?_
  refine w.acmp (pc' := 7) (dc.g 2 rfl) (by decide) (by decide) (fun hc107 => ?_) (fun hc107 => ?_)
  · show Go κ _ T 7 #[.val (.ref x), .val (.ref y), .unset] []
    refine blk (pc' := 8) (Ls' := #[.val (.ref x), .val (.ref y), .unset]) (st' := [(.ref y)]) [oAloadN w.ok (dc.g 5 rfl)] rfl ?_
    refine w.instY (wd hw 82 rfl) (Ins.self G.exa) (dc.g 6 rfl) ?_
    intro T108 w109
    show Go κ _ T108 11 #[.val (.ref x), .val (.ref y), .unset] [(.int (1 : Int32))]
    refine zEq (pc' := 54) w109.ok (dc.g 7 rfl) (by decide) (by decide) (fun hc110 => absurd hc110 (by decide)) (fun hc110 => ?_)
    show Go κ _ T108 14 #[.val (.ref x), .val (.ref y), .unset] []
    refine blk (pc' := 15) (Ls' := #[.val (.ref x), .val (.ref y), .unset]) (st' := [(.ref y)]) [oAloadN w109.ok (dc.g 8 rfl)] rfl ?_
    refine w109.castY (wd hw 82 rfl) (Ins.self G.exa) (dc.g 9 rfl) ?_
    intro T111 w112
    show Go κ _ T111 18 #[.val (.ref x), .val (.ref y), .unset] [(.ref y)]
    refine blk (pc' := 19) (Ls' := #[.val (.ref x), .val (.ref y), .val (.ref y)]) (st' := []) [oAstoreN w112.ok (dc.g 10 rfl)] rfl ?_
    refine w112.gets (wd hw 60 rfl) (hcs.ext (w112.old ozs)) (dc.g 11 rfl) ?_
    intro T113 w114
    show Go κ _ T113 22 #[.val (.ref x), .val (.ref y), .val (.ref y)] [(.int zc)]
    refine zEq (pc' := 36) w114.ok (dc.g 12 rfl) (by decide) (by decide) (fun hc115 => absurd hc115 hcz) (fun hc115 => ?_)
    show Go κ _ T113 25 #[.val (.ref x), .val (.ref y), .val (.ref y)] []
    refine blk (pc' := 26) (Ls' := #[.val (.ref x), .val (.ref y), .val (.ref y)]) (st' := [(.ref x)]) [oAloadN w114.ok (dc.g 13 rfl)] rfl ?_
    refine w114.get (wd hw 26 rfl) f2 (dc.g 14 rfl) ?_
    intro T116 w117
    show Go κ _ T116 29 #[.val (.ref x), .val (.ref y), .val (.ref y)] [(.int (0 : Int32))]
    refine blk (pc' := 30) (Ls' := #[.val (.ref x), .val (.ref y), .val (.ref y)]) (st' := [(.ref y), (.int (0 : Int32))]) [oAloadN w117.ok (dc.g 15 rfl)] rfl ?_
    refine w117.get (wd hw 26 rfl) g2 (dc.g 16 rfl) ?_
    intro T118 w119
    show Go κ _ T118 33 #[.val (.ref x), .val (.ref y), .val (.ref y)] [(.int (0 : Int32)), (.int (0 : Int32))]
    refine cNe (pc' := 54) w119.ok (dc.g 17 rfl) (by decide) (by decide) (fun hc120 => absurd rfl hc120) (fun hc120 => ?_)
    show Go κ _ T118 36 #[.val (.ref x), .val (.ref y), .val (.ref y)] []
    refine blk (pc' := 37) (Ls' := #[.val (.ref x), .val (.ref y), .val (.ref y)]) (st' := [(.ref x)]) [oAloadN w119.ok (dc.g 18 rfl)] rfl ?_
    refine w119.get (wd hw 25 rfl) f1 (dc.g 19 rfl) ?_
    intro T121 w122
    show Go κ _ T121 40 #[.val (.ref x), .val (.ref y), .val (.ref y)] [(.ref u)]
    refine blk (pc' := 41) (Ls' := #[.val (.ref x), .val (.ref y), .val (.ref y)]) (st' := [(.ref y), (.ref u)]) [oAloadN w122.ok (dc.g 20 rfl)] rfl ?_
    refine w122.get (wd hw 25 rfl) g1 (dc.g 21 rfl) ?_
    intro T123 w124
    show Go κ _ T123 44 #[.val (.ref x), .val (.ref y), .val (.ref y)] [(.ref t), (.ref u)]
    refine w124.callS (wd hw 83 rfl) (wd hw 84 rfl) (wd hw 85 rfl) (wd hw 86 rfl) (by decide) (argsL := [(.ref u), (.ref t)]) (Wd := 0) (Ctr.pays (len := 3) (Wd := 0) (c_leq l Z a0 hw hEL hJS ty hTY f3 g3) w124 (wd hw 86 rfl) (wd hw 85 rfl) hEL (by decide) (by decide) sfNil) pd4 rfl (st := []) rfl rfl (Nat.le_of_eq rfl) (dc.g 22 rfl) (by decide) (by decide) ?_
    intro vm125 T126 h127 v128 w129 C130 Q131
    obtain ⟨e2, rfl⟩ := Q131
    subst e2
    show Go κ _ T126 47 #[.val (.ref x), .val (.ref y), .val (.ref y)] [(.int (if cs.map lo8 = ds.map lo8 then (1 : Int32) else 0))]
    by_cases hq : cs = ds
    · subst hq
      refine Go.top (y := (1 : Int32)) (if_pos rfl) ?_
      show Go κ _ T126 47 #[.val (.ref x), .val (.ref y), .val (.ref y)] [(.int (1 : Int32))]
      refine zEq (pc' := 54) w129.ok (dc.g 23 rfl) (by decide) (by decide) (fun hc132 => absurd hc132 (by decide)) (fun hc132 => ?_)
      show Go κ _ T126 50 #[.val (.ref x), .val (.ref y), .val (.ref y)] []
      refine blk (pc' := 55) (Ls' := #[.val (.ref x), .val (.ref y), .val (.ref y)]) (st' := [(.int (1 : Int32))]) [oIconst w129.ok (dc.g 24 rfl), oGoto w129.ok 55 (dc.g 25 rfl)] rfl ?_
      exact w129.retI (t := .boolean) rfl (Or.inr (Or.inl rfl)) rfl (dc.g 27 rfl) (by decide) (by decide) (fun S hS => ⟨rfl, by rw [if_pos rfl]⟩)
    · refine Go.top (y := (0 : Int32)) (if_neg (fun q => hq (lo8_list hL hM q))) ?_
      show Go κ _ T126 47 #[.val (.ref x), .val (.ref y), .val (.ref y)] [(.int (0 : Int32))]
      refine zEq (pc' := 54) w129.ok (dc.g 23 rfl) (by decide) (by decide) (fun hc133 => ?_) (fun hc133 => absurd rfl hc133)
      show Go κ _ T126 54 #[.val (.ref x), .val (.ref y), .val (.ref y)] []
      refine blk (pc' := 55) (Ls' := #[.val (.ref x), .val (.ref y), .val (.ref y)]) (st' := [(.int (0 : Int32))]) [oIconst w129.ok (dc.g 26 rfl)] rfl ?_
      exact w129.retI (t := .boolean) rfl (Or.inr (Or.inl rfl)) rfl (dc.g 27 rfl) (by decide) (by decide) (fun S hS => ⟨rfl, by rw [if_neg hq]⟩)
  · show Go κ _ T 5 #[.val (.ref x), .val (.ref y), .unset] []
    subst hc107
    show Go κ _ T 5 #[.val (.ref x), .val (.ref x), .unset] []
    refine blk (pc' := 6) (Ls' := #[.val (.ref x), .val (.ref x), .unset]) (st' := [(.int (1 : Int32))]) [oIconst w.ok (dc.g 3 rfl)] rfl ?_
    exact w.retI (t := .boolean) rfl (Or.inr (Or.inl rfl)) rfl (dc.g 4 rfl) (by decide) (by decide) (fun S hS => ⟨rfl, by rw [if_pos (F.inj G hL hM)]⟩)
def D_rec : List (Nat × Instr × Nat) := [(0, .aload_n 0, 1), (1, .invokespecial 1, 3), (4, .return_, 1)]
theorem hD_rec : ∀ q ∈ D_rec, decode jdk_30_method_1_code q.1 = .ok q.2 := by decide +kernel
set_option maxRecDepth 65536 in
set_option maxHeartbeats 4000000 in
theorem c_rec (l : Launch) (Z : State) (a0 : Array Value) (hw : ∀ d ∈ tables_1, d.before a0 Z = true) (hEL : EW Z a0 consts_1) (hJS : JS Z) (ty : Nat → Addr) (hTY : TY Z ty) {a : Addr} {h : Heap} : Ctr l Z consts_1 (⟨"java/lang/Record", "<init>", "()V"⟩ : MethodName) jdk_30_method_1_code 1 none [] ({ frames := 1, cells := 0, slots := 0, locals := 12 } : Room) [] #[(.ref a)] h (fun v h' S => v = none ∧ h = h') := by
  refine enter (a0 := a0) (by first | (simp [plainName, overriddenIn]; done) | decide +kernel) hEL (Ls := #[.val (.ref a)]) (fun m => by first | (simp [entryFrame, mkF, argsToLocals, Value.category]; done) | rfl) ?_
  intro κ vm T hby hs w Sf
  have dc := Dec.of hby hD_rec
  show Go κ (GQ κ Z consts_1 ({ frames := 1, cells := 0, slots := 0, locals := 12 } : Room) (fun v h' S => v = none ∧ h = h')) T 0 #[.val (.ref a)] []
  refine blk (pc' := 1) (Ls' := #[.val (.ref a)]) (st' := [(.ref a)]) [oAloadN w.ok (dc.g 0 rfl)] rfl ?_
  refine w.initO (wd hw 44 rfl) (wd hw 17 rfl) (wd hw 18 rfl) rfl (dc.g 1 rfl) (by decide) (Wd := 0) (Nat.le_of_eq rfl) (by decide) ?_
  intro T134 w135
  show Go κ _ T134 4 #[.val (.ref a)] []
  exact w135.retV (dc.g 2 rfl) (by decide) (by decide) (fun S hS => ⟨rfl, rfl⟩)
def D_typ : List (Nat × Instr × Nat) := [(0, .iload_n 0, 1), (1, .ifCond .ne 7, 3), (4, .getstatic 7, 3), (7, .areturn, 1), (8, .iload_n 0, 1), (9, .iconst 1, 1), (10, .if_icmp .ne 7, 3), (13, .getstatic 13, 3), (16, .areturn, 1), (17, .iload_n 0, 1), (18, .iconst 2, 1), (19, .if_icmp .ne 7, 3), (22, .getstatic 16, 3), (25, .areturn, 1), (26, .iload_n 0, 1), (27, .iconst 3, 1), (28, .if_icmp .ne 7, 3), (31, .getstatic 19, 3), (34, .areturn, 1), (35, .getstatic 22, 3), (38, .areturn, 1)]
theorem hD_typ : ∀ q ∈ D_typ, decode method_2_code q.1 = .ok q.2 := by decide +kernel
set_option maxRecDepth 65536 in
set_option maxHeartbeats 4000000 in
theorem c_typ (l : Launch) (Z : State) (a0 : Array Value) (hw : ∀ d ∈ tables_1, d.before a0 Z = true) (hEL : EW Z a0 consts_1) (hJS : JS Z) (ty : Nat → Addr) (hTY : TY Z ty) {k : Nat} {h : Heap} (oz : Ext Z.heap h) (hk : k < 5) : Ctr l Z consts_1 (⟨"com/example/heronbus/heronbus/selector/TokenIsPinLaw", "typeOf", "(I)Lcom/example/heronbus/heronbus/selector/Token$Type;"⟩ : MethodName) method_2_code 1 (some (.object "com/example/heronbus/heronbus/selector/Token$Type")) [] ({ frames := 0, cells := 0, slots := 0, locals := 0 } : Room) [] #[(.int (Int32.ofNat k))] h (fun v h' S => h = h' ∧ v = some (.ref (ty k))) := by
  refine enter (a0 := a0) (by first | (simp [plainName, overriddenIn]; done) | decide +kernel) hEL (Ls := #[.val (.int (Int32.ofNat k))]) (fun m => by first | (simp [entryFrame, mkF, argsToLocals, Value.category]; done) | rfl) ?_
  intro κ vm T hby hs w Sf
  have dc := Dec.of hby hD_typ
  show Go κ (GQ κ Z consts_1 ({ frames := 0, cells := 0, slots := 0, locals := 0 } : Room) (fun v h' S => h = h' ∧ v = some (.ref (ty k)))) T 0 #[.val (.int (Int32.ofNat k))] []
  have ozs : Ext Z.heap κ.s.heap := by rw [hs]; exact oz
  obtain ⟨t0, t1, t2, t3, t4, -⟩ := hTY
  obtain rfl | rfl | rfl | rfl | rfl : k = 0 ∨ k = 1 ∨ k = 2 ∨ k = 3 ∨ k = 4 := by omega
  · show Go κ _ T 0 #[.val (.int (Int32.ofNat 0))] []
    refine blk (pc' := 1) (Ls' := #[.val (.int (Int32.ofNat 0))]) (st' := [(.int (Int32.ofNat 0))]) [oIloadN w.ok (dc.g 0 rfl)] rfl ?_
    refine zNe (pc' := 8) w.ok (dc.g 1 rfl) (by decide) (by decide) (fun hc136 => absurd (by decide) hc136) (fun hc136 => ?_)
    show Go κ _ T 4 #[.val (.int (Int32.ofNat 0))] []
    refine w.gets (wd hw 33 rfl) (t0.ext (w.old ozs)) (dc.g 2 rfl) ?_
    intro T137 w138
    show Go κ _ T137 7 #[.val (.int (Int32.ofNat 0))] [(.ref (ty 0))]
    exact w138.retA rfl rfl rfl rfl (dc.g 3 rfl) (by decide) (by decide) (fun S hS => ⟨rfl, rfl⟩)
  · show Go κ _ T 0 #[.val (.int (Int32.ofNat 1))] []
    refine blk (pc' := 1) (Ls' := #[.val (.int (Int32.ofNat 1))]) (st' := [(.int (Int32.ofNat 1))]) [oIloadN w.ok (dc.g 0 rfl)] rfl ?_
    refine zNe (pc' := 8) w.ok (dc.g 1 rfl) (by decide) (by decide) (fun hc139 => ?_) (fun hc139 => absurd hc139 (by decide))
    show Go κ _ T 8 #[.val (.int (Int32.ofNat 1))] []
    refine blk (pc' := 10) (Ls' := #[.val (.int (Int32.ofNat 1))]) (st' := [(.int (1 : Int32)), (.int (Int32.ofNat 1))]) [oIloadN w.ok (dc.g 4 rfl), oIconst w.ok (dc.g 5 rfl)] rfl ?_
    refine cNe (pc' := 17) w.ok (dc.g 6 rfl) (by decide) (by decide) (fun hc140 => absurd (by decide) hc140) (fun hc140 => ?_)
    show Go κ _ T 13 #[.val (.int (Int32.ofNat 1))] []
    refine w.gets (wd hw 75 rfl) (t1.ext (w.old ozs)) (dc.g 7 rfl) ?_
    intro T141 w142
    show Go κ _ T141 16 #[.val (.int (Int32.ofNat 1))] [(.ref (ty 1))]
    exact w142.retA rfl rfl rfl rfl (dc.g 8 rfl) (by decide) (by decide) (fun S hS => ⟨rfl, rfl⟩)
  · show Go κ _ T 0 #[.val (.int (Int32.ofNat 2))] []
    refine blk (pc' := 1) (Ls' := #[.val (.int (Int32.ofNat 2))]) (st' := [(.int (Int32.ofNat 2))]) [oIloadN w.ok (dc.g 0 rfl)] rfl ?_
    refine zNe (pc' := 8) w.ok (dc.g 1 rfl) (by decide) (by decide) (fun hc143 => ?_) (fun hc143 => absurd hc143 (by decide))
    show Go κ _ T 8 #[.val (.int (Int32.ofNat 2))] []
    refine blk (pc' := 10) (Ls' := #[.val (.int (Int32.ofNat 2))]) (st' := [(.int (1 : Int32)), (.int (Int32.ofNat 2))]) [oIloadN w.ok (dc.g 4 rfl), oIconst w.ok (dc.g 5 rfl)] rfl ?_
    refine cNe (pc' := 17) w.ok (dc.g 6 rfl) (by decide) (by decide) (fun hc144 => ?_) (fun hc144 => absurd hc144 (by decide))
    show Go κ _ T 17 #[.val (.int (Int32.ofNat 2))] []
    refine blk (pc' := 19) (Ls' := #[.val (.int (Int32.ofNat 2))]) (st' := [(.int (2 : Int32)), (.int (Int32.ofNat 2))]) [oIloadN w.ok (dc.g 9 rfl), oIconst w.ok (dc.g 10 rfl)] rfl ?_
    refine cNe (pc' := 26) w.ok (dc.g 11 rfl) (by decide) (by decide) (fun hc145 => absurd (by decide) hc145) (fun hc145 => ?_)
    show Go κ _ T 22 #[.val (.int (Int32.ofNat 2))] []
    refine w.gets (wd hw 73 rfl) (t2.ext (w.old ozs)) (dc.g 12 rfl) ?_
    intro T146 w147
    show Go κ _ T146 25 #[.val (.int (Int32.ofNat 2))] [(.ref (ty 2))]
    exact w147.retA rfl rfl rfl rfl (dc.g 13 rfl) (by decide) (by decide) (fun S hS => ⟨rfl, rfl⟩)
  · show Go κ _ T 0 #[.val (.int (Int32.ofNat 3))] []
    refine blk (pc' := 1) (Ls' := #[.val (.int (Int32.ofNat 3))]) (st' := [(.int (Int32.ofNat 3))]) [oIloadN w.ok (dc.g 0 rfl)] rfl ?_
    refine zNe (pc' := 8) w.ok (dc.g 1 rfl) (by decide) (by decide) (fun hc148 => ?_) (fun hc148 => absurd hc148 (by decide))
    show Go κ _ T 8 #[.val (.int (Int32.ofNat 3))] []
    refine blk (pc' := 10) (Ls' := #[.val (.int (Int32.ofNat 3))]) (st' := [(.int (1 : Int32)), (.int (Int32.ofNat 3))]) [oIloadN w.ok (dc.g 4 rfl), oIconst w.ok (dc.g 5 rfl)] rfl ?_
    refine cNe (pc' := 17) w.ok (dc.g 6 rfl) (by decide) (by decide) (fun hc149 => ?_) (fun hc149 => absurd hc149 (by decide))
    show Go κ _ T 17 #[.val (.int (Int32.ofNat 3))] []
    refine blk (pc' := 19) (Ls' := #[.val (.int (Int32.ofNat 3))]) (st' := [(.int (2 : Int32)), (.int (Int32.ofNat 3))]) [oIloadN w.ok (dc.g 9 rfl), oIconst w.ok (dc.g 10 rfl)] rfl ?_
    refine cNe (pc' := 26) w.ok (dc.g 11 rfl) (by decide) (by decide) (fun hc150 => ?_) (fun hc150 => absurd hc150 (by decide))
    show Go κ _ T 26 #[.val (.int (Int32.ofNat 3))] []
    refine blk (pc' := 28) (Ls' := #[.val (.int (Int32.ofNat 3))]) (st' := [(.int (3 : Int32)), (.int (Int32.ofNat 3))]) [oIloadN w.ok (dc.g 14 rfl), oIconst w.ok (dc.g 15 rfl)] rfl ?_
    refine cNe (pc' := 35) w.ok (dc.g 16 rfl) (by decide) (by decide) (fun hc151 => absurd (by decide) hc151) (fun hc151 => ?_)
    show Go κ _ T 31 #[.val (.int (Int32.ofNat 3))] []
    refine w.gets (wd hw 53 rfl) (t3.ext (w.old ozs)) (dc.g 17 rfl) ?_
    intro T152 w153
    show Go κ _ T152 34 #[.val (.int (Int32.ofNat 3))] [(.ref (ty 3))]
    exact w153.retA rfl rfl rfl rfl (dc.g 18 rfl) (by decide) (by decide) (fun S hS => ⟨rfl, rfl⟩)
  · show Go κ _ T 0 #[.val (.int (Int32.ofNat 4))] []
    refine blk (pc' := 1) (Ls' := #[.val (.int (Int32.ofNat 4))]) (st' := [(.int (Int32.ofNat 4))]) [oIloadN w.ok (dc.g 0 rfl)] rfl ?_
    refine zNe (pc' := 8) w.ok (dc.g 1 rfl) (by decide) (by decide) (fun hc154 => ?_) (fun hc154 => absurd hc154 (by decide))
    show Go κ _ T 8 #[.val (.int (Int32.ofNat 4))] []
    refine blk (pc' := 10) (Ls' := #[.val (.int (Int32.ofNat 4))]) (st' := [(.int (1 : Int32)), (.int (Int32.ofNat 4))]) [oIloadN w.ok (dc.g 4 rfl), oIconst w.ok (dc.g 5 rfl)] rfl ?_
    refine cNe (pc' := 17) w.ok (dc.g 6 rfl) (by decide) (by decide) (fun hc155 => ?_) (fun hc155 => absurd hc155 (by decide))
    show Go κ _ T 17 #[.val (.int (Int32.ofNat 4))] []
    refine blk (pc' := 19) (Ls' := #[.val (.int (Int32.ofNat 4))]) (st' := [(.int (2 : Int32)), (.int (Int32.ofNat 4))]) [oIloadN w.ok (dc.g 9 rfl), oIconst w.ok (dc.g 10 rfl)] rfl ?_
    refine cNe (pc' := 26) w.ok (dc.g 11 rfl) (by decide) (by decide) (fun hc156 => ?_) (fun hc156 => absurd hc156 (by decide))
    show Go κ _ T 26 #[.val (.int (Int32.ofNat 4))] []
    refine blk (pc' := 28) (Ls' := #[.val (.int (Int32.ofNat 4))]) (st' := [(.int (3 : Int32)), (.int (Int32.ofNat 4))]) [oIloadN w.ok (dc.g 14 rfl), oIconst w.ok (dc.g 15 rfl)] rfl ?_
    refine cNe (pc' := 35) w.ok (dc.g 16 rfl) (by decide) (by decide) (fun hc157 => ?_) (fun hc157 => absurd hc157 (by decide))
    show Go κ _ T 35 #[.val (.int (Int32.ofNat 4))] []
    refine w.gets (wd hw 71 rfl) (t4.ext (w.old ozs)) (dc.g 19 rfl) ?_
    intro T158 w159
    show Go κ _ T158 38 #[.val (.int (Int32.ofNat 4))] [(.ref (ty 4))]
    exact w159.retA rfl rfl rfl rfl (dc.g 20 rfl) (by decide) (by decide) (fun S hS => ⟨rfl, rfl⟩)
def D_mk : List (Nat × Instr × Nat) := [(0, .iload_n 0, 1), (1, .ifCond .ne 14, 3), (4, .new 25, 3), (7, .dup, 1), (8, .iconst 0, 1), (9, .newarray .char, 2), (11, .invokespecial 27, 3), (14, .areturn, 1), (15, .iload_n 0, 1), (16, .iconst 1, 1), (17, .if_icmp .ne 20, 3), (20, .iconst 1, 1), (21, .newarray .char, 2), (23, .astore_n 3, 1), (24, .aload_n 3, 1), (25, .iconst 0, 1), (26, .iload_n 1, 1), (27, .castore, 1), (28, .new 25, 3), (31, .dup, 1), (32, .aload_n 3, 1), (33, .invokespecial 27, 3), (36, .areturn, 1), (37, .iconst 2, 1), (38, .newarray .char, 2), (40, .astore_n 3, 1), (41, .aload_n 3, 1), (42, .iconst 0, 1), (43, .iload_n 1, 1), (44, .castore, 1), (45, .aload_n 3, 1), (46, .iconst 1, 1), (47, .iload_n 2, 1), (48, .castore, 1), (49, .new 25, 3), (52, .dup, 1), (53, .aload_n 3, 1), (54, .invokespecial 27, 3), (57, .areturn, 1)]
theorem hD_mk : ∀ q ∈ D_mk, decode method_3_code q.1 = .ok q.2 := by decide +kernel
set_option maxRecDepth 65536 in
set_option maxHeartbeats 4000000 in
theorem c_mk (l : Launch) (Z : State) (a0 : Array Value) (hw : ∀ d ∈ tables_1, d.before a0 Z = true) (hEL : EW Z a0 consts_1) (hJS : JS Z) (ty : Nat → Addr) (hTY : TY Z ty) {n : Nat} {c0 c1 : Int32} {h : Heap} (oz : Ext Z.heap h) (hn : n < 3) (hL : IsL [c0, c1]) : Ctr l Z consts_1 (⟨"com/example/heronbus/heronbus/selector/TokenIsPinLaw", "mk", "(ICC)Ljava/lang/String;"⟩ : MethodName) method_3_code 4 (some (.object "java/lang/String")) [] ({ frames := 4, cells := 6, slots := 14, locals := 70 } : Room) [] #[(.int (Int32.ofNat n)), (.int c0), (.int c1)] h (fun v h' S => Keep h h' [] ∧ ∃ y, v = some (.ref y) ∧ Str Z h' y ([c0, c1].take n)) := by
  refine enter (a0 := a0) (by first | (simp [plainName, overriddenIn]; done) | decide +kernel) hEL (Ls := #[.val (.int (Int32.ofNat n)), .val (.int c0), .val (.int c1), .unset]) (fun m => by first | (simp [entryFrame, mkF, argsToLocals, Value.category]; done) | rfl) ?_
  intro κ vm T hby hs w Sf
  have dc := Dec.of hby hD_mk
  show Go κ (GQ κ Z consts_1 ({ frames := 4, cells := 6, slots := 14, locals := 70 } : Room) (fun v h' S => Keep h h' [] ∧ ∃ y, v = some (.ref y) ∧ Str Z h' y ([c0, c1].take n))) T 0 #[.val (.int (Int32.ofNat n)), .val (.int c0), .val (.int c1), .unset] []
  have ozs : Ext Z.heap κ.s.heap := by rw [hs]; exact oz
  have b0 := hL c0 (by simp)
  have b1 := hL c1 (by simp)
  obtain rfl | rfl | rfl : n = 0 ∨ n = 1 ∨ n = 2 := by omega
  · show Go κ _ T 0 #[.val (.int (Int32.ofNat 0)), .val (.int c0), .val (.int c1), .unset] []
    refine blk (pc' := 1) (Ls' := #[.val (.int (Int32.ofNat 0)), .val (.int c0), .val (.int c1), .unset]) (st' := [(.int (Int32.ofNat 0))]) [oIloadN w.ok (dc.g 0 rfl)] rfl ?_
    refine zNe (pc' := 15) w.ok (dc.g 1 rfl) (by decide) (by decide) (fun hc160 => absurd (by decide) hc160) (fun hc160 => ?_)
    show Go κ _ T 4 #[.val (.int (Int32.ofNat 0)), .val (.int c0), .val (.int c1), .unset] []
    refine w.new (wd hw 5 rfl) (wd hw 6 rfl) (wd hw 7 rfl) (dc.g 2 rfl) (by decide) (by decide) ?_
    intro T161 h163 x164 w162 g165 E166 X167 D168 S169
    show Go κ _ T161 7 #[.val (.int (Int32.ofNat 0)), .val (.int c0), .val (.int c1), .unset] [(.ref x164)]
    refine blk (pc' := 9) (Ls' := #[.val (.int (Int32.ofNat 0)), .val (.int c0), .val (.int c1), .unset]) (st' := [(.int (0 : Int32)), (.ref x164), (.ref x164)]) [oDup w162.ok (dc.g 3 rfl), oIconst w162.ok (dc.g 4 rfl)] rfl ?_
    refine w162.newarr (aty := .char) (wd hw 8 rfl) (dc.g 5 rfl) (c := 0) (by decide) (by decide) (cap := 0) (by first | decide | omega) (by first | decide | omega) (by decide) (by decide) rfl rfl ?_
    intro T170 h172 x173 w171 g174 E175 F176 S177
    show Go κ _ T170 11 #[.val (.int (Int32.ofNat 0)), .val (.int c0), .val (.int c1), .unset] [(.ref x173), (.ref x164), (.ref x164)]
    have S3 := Safe.ext E175 w162.chv S169
    have X2 := X167.ext E175
    have D2 := fun {O nm d : String} {ty : FieldType} (q : Laid Z a0 "java/lang/String" O nm d) (q2 : parseFieldDescriptor d = some ty) => (D168 q q2).ext E175
    refine w171.callI rfl (wd hw 9 rfl) (wd hw 10 rfl) (wd hw 11 rfl) (by decide) (a := x164) (argsL := [(.ref x173)]) (Wd := 1) (Ctr.pays (len := 3) (Wd := 1) (c_si1 l Z a0 hw hEL hJS ty hTY (cs := []) (w171.old ozs) X2 (D2 (Or.inr (wd hw 21 rfl)) (ty := .array .byte) (by decide)) (D2 (Or.inr (wd hw 22 rfl)) (ty := .byte) (by decide)) (by rw [g165]; exact oz.1) F176 (by simp) (fun c hc => nomatch hc)) w171 (wd hw 11 rfl) (wd hw 7 rfl) hEL (by decide) (by decide) (sfOne X2.lt S3)) pd5 rfl (st := [(.ref x164)]) rfl rfl (Nat.le_of_eq rfl) (dc.g 6 rfl) (by decide) (by decide) ?_
    intro vm178 T179 h180 v181 w182 C183 Q184
    obtain ⟨rfl, K2, FS⟩ := Q184
    show Go κ _ T179 14 #[.val (.int (Int32.ofNat 0)), .val (.int c0), .val (.int c1), .unset] [(.ref x164)]
    exact w182.retA rfl rfl rfl rfl (dc.g 7 rfl) (by decide) (by decide) (fun S hS => ⟨(((Keep.refl h []).ext E166).ext E175).trans K2 (allS (Or.inr (by rw [g165]; exact Nat.le_refl _)) all0), _, rfl, FS⟩)
  · show Go κ _ T 0 #[.val (.int (Int32.ofNat 1)), .val (.int c0), .val (.int c1), .unset] []
    refine blk (pc' := 1) (Ls' := #[.val (.int (Int32.ofNat 1)), .val (.int c0), .val (.int c1), .unset]) (st' := [(.int (Int32.ofNat 1))]) [oIloadN w.ok (dc.g 0 rfl)] rfl ?_
    refine zNe (pc' := 15) w.ok (dc.g 1 rfl) (by decide) (by decide) (fun hc185 => ?_) (fun hc185 => absurd hc185 (by decide))
    show Go κ _ T 15 #[.val (.int (Int32.ofNat 1)), .val (.int c0), .val (.int c1), .unset] []
    refine blk (pc' := 17) (Ls' := #[.val (.int (Int32.ofNat 1)), .val (.int c0), .val (.int c1), .unset]) (st' := [(.int (1 : Int32)), (.int (Int32.ofNat 1))]) [oIloadN w.ok (dc.g 8 rfl), oIconst w.ok (dc.g 9 rfl)] rfl ?_
    refine cNe (pc' := 37) w.ok (dc.g 10 rfl) (by decide) (by decide) (fun hc186 => absurd rfl hc186) (fun hc186 => ?_)
    show Go κ _ T 20 #[.val (.int (Int32.ofNat 1)), .val (.int c0), .val (.int c1), .unset] []
    refine blk (pc' := 21) (Ls' := #[.val (.int (Int32.ofNat 1)), .val (.int c0), .val (.int c1), .unset]) (st' := [(.int (1 : Int32))]) [oIconst w.ok (dc.g 11 rfl)] rfl ?_
    refine w.newarr (aty := .char) (wd hw 8 rfl) (dc.g 12 rfl) (c := 1) (by decide) (by decide) (cap := 1) (by first | decide | omega) (by first | decide | omega) (by decide) (by decide) rfl rfl ?_
    intro T187 h189 x190 w188 g191 E192 F193 S194
    show Go κ _ T187 23 #[.val (.int (Int32.ofNat 1)), .val (.int c0), .val (.int c1), .unset] [(.ref x190)]
    refine blk (pc' := 27) (Ls' := #[.val (.int (Int32.ofNat 1)), .val (.int c0), .val (.int c1), .val (.ref x190)]) (st' := [(.int c0), (.int (0 : Int32)), (.ref x190)]) [oAstoreN w188.ok (dc.g 13 rfl), oAloadN w188.ok (dc.g 14 rfl), oIconst w188.ok (dc.g 15 rfl), oIloadN w188.ok (dc.g 16 rfl)] rfl ?_
    have ha : Z.heap.size ≤ x190 := by rw [g191]; exact oz.1
    have hga : h.size ≤ x190 := by rw [g191]; exact Nat.le_refl _
    refine w188.cst F193 (i := 0) rfl (by simp) (narCh b0.1 (le255 b0.2)) (fitsCh b0.1 (le255 b0.2)) ha (dc.g 17 rfl) ?_
    intro T195 h197 w196 W198 F199
    show Go κ _ T195 28 #[.val (.int (Int32.ofNat 1)), .val (.int c0), .val (.int c1), .val (.ref x190)] []
    obtain ⟨slW198, vvW198, WW198⟩ := W198
    have K1 := ((Keep.refl h []).ext E192).wr WW198 (Or.inr hga)
    refine w196.new (wd hw 5 rfl) (wd hw 6 rfl) (wd hw 7 rfl) (dc.g 18 rfl) (by decide) (by decide) ?_
    intro T200 h202 x203 w201 g204 E205 X206 D207 S208
    show Go κ _ T200 31 #[.val (.int (Int32.ofNat 1)), .val (.int c0), .val (.int c1), .val (.ref x190)] [(.ref x203)]
    refine blk (pc' := 33) (Ls' := #[.val (.int (Int32.ofNat 1)), .val (.int c0), .val (.int c1), .val (.ref x190)]) (st' := [(.ref x190), (.ref x203), (.ref x203)]) [oDup w201.ok (dc.g 19 rfl), oAloadN w201.ok (dc.g 20 rfl)] rfl ?_
    refine w201.callI rfl (wd hw 9 rfl) (wd hw 10 rfl) (wd hw 11 rfl) (by decide) (a := x203) (argsL := [(.ref x190)]) (Wd := 1) (Ctr.pays (len := 3) (Wd := 1) (c_si1 l Z a0 hw hEL hJS ty hTY (cs := [c0]) (w201.old ozs) X206 (D207 (Or.inr (wd hw 21 rfl)) (ty := .array .byte) (by decide)) (D207 (Or.inr (wd hw 22 rfl)) (ty := .byte) (by decide)) (by rw [g204]; exact Nat.le_trans oz.1 K1.1) (F199.ext E205) (by simp) (fun c hc => hL c (by simp at hc ⊢; exact Or.inl hc))) w201 (wd hw 11 rfl) (wd hw 7 rfl) hEL (by decide) (by decide) (sfOne X206.lt S208)) pd5 rfl (st := [(.ref x203)]) rfl rfl (Nat.le_of_eq rfl) (dc.g 21 rfl) (by decide) (by decide) ?_
    intro vm209 T210 h211 v212 w213 C214 Q215
    obtain ⟨rfl, K2, FS⟩ := Q215
    show Go κ _ T210 36 #[.val (.int (Int32.ofNat 1)), .val (.int c0), .val (.int c1), .val (.ref x190)] [(.ref x203)]
    exact w213.retA rfl rfl rfl rfl (dc.g 22 rfl) (by decide) (by decide) (fun S hS => ⟨(K1.ext E205).trans K2 (allS (Or.inr (by rw [g204]; exact K1.1)) all0), _, rfl, FS⟩)
  · show Go κ _ T 0 #[.val (.int (Int32.ofNat 2)), .val (.int c0), .val (.int c1), .unset] []
    refine blk (pc' := 1) (Ls' := #[.val (.int (Int32.ofNat 2)), .val (.int c0), .val (.int c1), .unset]) (st' := [(.int (Int32.ofNat 2))]) [oIloadN w.ok (dc.g 0 rfl)] rfl ?_
    refine zNe (pc' := 15) w.ok (dc.g 1 rfl) (by decide) (by decide) (fun hc216 => ?_) (fun hc216 => absurd hc216 (by decide))
    show Go κ _ T 15 #[.val (.int (Int32.ofNat 2)), .val (.int c0), .val (.int c1), .unset] []
    refine blk (pc' := 17) (Ls' := #[.val (.int (Int32.ofNat 2)), .val (.int c0), .val (.int c1), .unset]) (st' := [(.int (1 : Int32)), (.int (Int32.ofNat 2))]) [oIloadN w.ok (dc.g 8 rfl), oIconst w.ok (dc.g 9 rfl)] rfl ?_
    refine cNe (pc' := 37) w.ok (dc.g 10 rfl) (by decide) (by decide) (fun hc217 => ?_) (fun hc217 => absurd hc217 (by decide))
    show Go κ _ T 37 #[.val (.int (Int32.ofNat 2)), .val (.int c0), .val (.int c1), .unset] []
    refine blk (pc' := 38) (Ls' := #[.val (.int (Int32.ofNat 2)), .val (.int c0), .val (.int c1), .unset]) (st' := [(.int (2 : Int32))]) [oIconst w.ok (dc.g 23 rfl)] rfl ?_
    refine w.newarr (aty := .char) (wd hw 8 rfl) (dc.g 24 rfl) (c := 2) (by decide) (by decide) (cap := 2) (by first | decide | omega) (by first | decide | omega) (by decide) (by decide) rfl rfl ?_
    intro T218 h220 x221 w219 g222 E223 F224 S225
    show Go κ _ T218 40 #[.val (.int (Int32.ofNat 2)), .val (.int c0), .val (.int c1), .unset] [(.ref x221)]
    refine blk (pc' := 44) (Ls' := #[.val (.int (Int32.ofNat 2)), .val (.int c0), .val (.int c1), .val (.ref x221)]) (st' := [(.int c0), (.int (0 : Int32)), (.ref x221)]) [oAstoreN w219.ok (dc.g 25 rfl), oAloadN w219.ok (dc.g 26 rfl), oIconst w219.ok (dc.g 27 rfl), oIloadN w219.ok (dc.g 28 rfl)] rfl ?_
    have ha : Z.heap.size ≤ x221 := by rw [g222]; exact oz.1
    have hga : h.size ≤ x221 := by rw [g222]; exact Nat.le_refl _
    refine w219.cst F224 (i := 0) rfl (by simp) (narCh b0.1 (le255 b0.2)) (fitsCh b0.1 (le255 b0.2)) ha (dc.g 29 rfl) ?_
    intro T226 h228 w227 W229 F230
    show Go κ _ T226 45 #[.val (.int (Int32.ofNat 2)), .val (.int c0), .val (.int c1), .val (.ref x221)] []
    obtain ⟨slW229, vvW229, WW229⟩ := W229
    refine blk (pc' := 48) (Ls' := #[.val (.int (Int32.ofNat 2)), .val (.int c0), .val (.int c1), .val (.ref x221)]) (st' := [(.int c1), (.int (1 : Int32)), (.ref x221)]) [oAloadN w227.ok (dc.g 30 rfl), oIconst w227.ok (dc.g 31 rfl), oIloadN w227.ok (dc.g 32 rfl)] rfl ?_
    refine w227.cst F230 (i := 1) rfl (by simp) (narCh b1.1 (le255 b1.2)) (fitsCh b1.1 (le255 b1.2)) ha (dc.g 33 rfl) ?_
    intro T231 h233 w232 W234 F235
    show Go κ _ T231 49 #[.val (.int (Int32.ofNat 2)), .val (.int c0), .val (.int c1), .val (.ref x221)] []
    obtain ⟨slW234, vvW234, WW234⟩ := W234
    have K1 := (((Keep.refl h []).ext E223).wr WW229 (Or.inr hga)).wr WW234 (Or.inr hga)
    refine w232.new (wd hw 5 rfl) (wd hw 6 rfl) (wd hw 7 rfl) (dc.g 34 rfl) (by decide) (by decide) ?_
    intro T236 h238 x239 w237 g240 E241 X242 D243 S244
    show Go κ _ T236 52 #[.val (.int (Int32.ofNat 2)), .val (.int c0), .val (.int c1), .val (.ref x221)] [(.ref x239)]
    refine blk (pc' := 54) (Ls' := #[.val (.int (Int32.ofNat 2)), .val (.int c0), .val (.int c1), .val (.ref x221)]) (st' := [(.ref x221), (.ref x239), (.ref x239)]) [oDup w237.ok (dc.g 35 rfl), oAloadN w237.ok (dc.g 36 rfl)] rfl ?_
    refine w237.callI rfl (wd hw 9 rfl) (wd hw 10 rfl) (wd hw 11 rfl) (by decide) (a := x239) (argsL := [(.ref x221)]) (Wd := 1) (Ctr.pays (len := 3) (Wd := 1) (c_si1 l Z a0 hw hEL hJS ty hTY (cs := [c0, c1]) (w237.old ozs) X242 (D243 (Or.inr (wd hw 21 rfl)) (ty := .array .byte) (by decide)) (D243 (Or.inr (wd hw 22 rfl)) (ty := .byte) (by decide)) (by rw [g240]; exact Nat.le_trans oz.1 K1.1) (F235.ext E241) (by simp) (fun c hc => hL c (by simp at hc ⊢; exact hc))) w237 (wd hw 11 rfl) (wd hw 7 rfl) hEL (by decide) (by decide) (sfOne X242.lt S244)) pd5 rfl (st := [(.ref x239)]) rfl rfl (Nat.le_of_eq rfl) (dc.g 37 rfl) (by decide) (by decide) ?_
    intro vm245 T246 h247 v248 w249 C250 Q251
    obtain ⟨rfl, K2, FS⟩ := Q251
    show Go κ _ T246 57 #[.val (.int (Int32.ofNat 2)), .val (.int c0), .val (.int c1), .val (.ref x221)] [(.ref x239)]
    exact w249.retA rfl rfl rfl rfl (dc.g 38 rfl) (by decide) (by decide) (fun S hS => ⟨(K1.ext E241).trans K2 (allS (Or.inr (by rw [g240]; exact K1.1)) all0), _, rfl, FS⟩)
def D_tok : List (Nat × Instr × Nat) := [(0, .aload_n 0, 1), (1, .invokespecial 1, 3), (4, .aload_n 0, 1), (5, .aload_n 1, 1), (6, .putfield 7, 3), (9, .aload_n 0, 1), (10, .aload_n 2, 1), (11, .putfield 13, 3), (14, .aload_n 0, 1), (15, .aload_n 3, 1), (16, .putfield 17, 3), (19, .aload_n 0, 1), (20, .iload 4, 2), (22, .putfield 21, 3), (25, .return_, 1)]
theorem hD_tok : ∀ q ∈ D_tok, decode prog_110_method_1_code q.1 = .ok q.2 := by decide +kernel
set_option maxRecDepth 65536 in
set_option maxHeartbeats 4000000 in
theorem c_tok (l : Launch) (Z : State) (a0 : Array Value) (hw : ∀ d ∈ tables_1, d.before a0 Z = true) (hEL : EW Z a0 consts_1) (hJS : JS Z) (ty : Nat → Addr) (hTY : TY Z ty) {a t u : Addr} {z : Int32} {h : Heap} (ha : Z.heap.size ≤ a) (X : Exa Z h a "com/example/heronbus/heronbus/selector/Token") (F_type : Fld Z h a "com/example/heronbus/heronbus/selector/Token" "type" "Lcom/example/heronbus/heronbus/selector/Token$Type;" .null) (F_text : Fld Z h a "com/example/heronbus/heronbus/selector/Token" "text" "Ljava/lang/String;" .null) (F_value : Fld Z h a "com/example/heronbus/heronbus/selector/Token" "value" "Ljava/lang/Object;" .null) (F_offset : Fld Z h a "com/example/heronbus/heronbus/selector/Token" "offset" "I" (.int 0)) : Ctr l Z consts_1 (⟨"com/example/heronbus/heronbus/selector/Token", "<init>", "(Lcom/example/heronbus/heronbus/selector/Token$Type;Ljava/lang/String;Ljava/lang/Object;I)V"⟩ : MethodName) prog_110_method_1_code 5 none [] ({ frames := 2, cells := 0, slots := 0, locals := 24 } : Room) [] #[(.ref a), (.ref t), (.ref u), .null, (.int z)] h (fun v h' S => v = none ∧ Keep h h' [a] ∧ Exa Z h' a "com/example/heronbus/heronbus/selector/Token" ∧ Fld Z h' a "com/example/heronbus/heronbus/selector/Token" "type" "Lcom/example/heronbus/heronbus/selector/Token$Type;" (.ref t) ∧ Fld Z h' a "com/example/heronbus/heronbus/selector/Token" "text" "Ljava/lang/String;" (.ref u)) := by
  refine enter (a0 := a0) (by first | (simp [plainName, overriddenIn]; done) | decide +kernel) hEL (Ls := #[.val (.ref a), .val (.ref t), .val (.ref u), .val .null, .val (.int z)]) (fun m => by first | (simp [entryFrame, mkF, argsToLocals, Value.category]; done) | rfl) ?_
  intro κ vm T hby hs w Sf
  have dc := Dec.of hby hD_tok
  show Go κ (GQ κ Z consts_1 ({ frames := 2, cells := 0, slots := 0, locals := 24 } : Room) (fun v h' S => v = none ∧ Keep h h' [a] ∧ Exa Z h' a "com/example/heronbus/heronbus/selector/Token" ∧ Fld Z h' a "com/example/heronbus/heronbus/selector/Token" "type" "Lcom/example/heronbus/heronbus/selector/Token$Type;" (.ref t) ∧ Fld Z h' a "com/example/heronbus/heronbus/selector/Token" "text" "Ljava/lang/String;" (.ref u))) T 0 #[.val (.ref a), .val (.ref t), .val (.ref u), .val .null, .val (.int z)] []
  refine blk (pc' := 1) (Ls' := #[.val (.ref a), .val (.ref t), .val (.ref u), .val .null, .val (.int z)]) (st' := [(.ref a)]) [oAloadN w.ok (dc.g 0 rfl)] rfl ?_
  refine w.callI rfl (wd hw 39 rfl) (wd hw 40 rfl) (wd hw 43 rfl) (by decide) (a := a) (argsL := []) (Wd := 0) (Ctr.pays (len := 3) (Wd := 0) (c_rec l Z a0 hw hEL hJS ty hTY) w (wd hw 43 rfl) (wd hw 42 rfl) hEL (by decide) (by decide) sfNil) pd6 rfl (st := []) rfl rfl (Nat.le_of_eq rfl) (dc.g 1 rfl) (by decide) (by decide) ?_
  intro vm252 T253 h254 v255 w256 C257 Q258
  obtain ⟨rfl, e2⟩ := Q258
  subst e2
  show Go κ _ T253 4 #[.val (.ref a), .val (.ref t), .val (.ref u), .val .null, .val (.int z)] []
  refine blk (pc' := 6) (Ls' := #[.val (.ref a), .val (.ref t), .val (.ref u), .val .null, .val (.int z)]) (st' := [(.ref t), (.ref a)]) [oAloadN w256.ok (dc.g 2 rfl), oAloadN w256.ok (dc.g 3 rfl)] rfl ?_
  refine w256.put (wd hw 45 rfl) F_type X (Or.inr ⟨(wd hw 46 rfl), rfl, rfl⟩) (wd hw 28 rfl) (ty := (.object "com/example/heronbus/heronbus/selector/Token$Type")) (by decide) rfl rfl (Safe.exa w256.alike X (by decide) (by decide)) ha (dc.g 4 rfl) ?_
  intro T259 h261 w260 W262 S263
  show Go κ _ T259 9 #[.val (.ref a), .val (.ref t), .val (.ref u), .val .null, .val (.int z)] []
  have K264 := ((Keep.refl h [a])).wr W262 (Or.inl (List.mem_of_getElem? (i := 0) rfl))
  have X265 := (X).wr W262
  have F266 : Fld Z h261 a "com/example/heronbus/heronbus/selector/Token" "type" "Lcom/example/heronbus/heronbus/selector/Token$Type;" (.ref t) := (F_type).same W262
  have F267 := (F_text).other W262 (Or.inr (slot_ne (Or.inr (wd hw 48 rfl)) (Or.inr (wd hw 46 rfl)) (by decide) (t := (.object "java/lang/String")) (by decide) (t' := (.object "com/example/heronbus/heronbus/selector/Token$Type")) (by decide)))
  have F268 := (F_value).other W262 (Or.inr (slot_ne (Or.inr (wd hw 50 rfl)) (Or.inr (wd hw 46 rfl)) (by decide) (t := (.object "java/lang/Object")) (by decide) (t' := (.object "com/example/heronbus/heronbus/selector/Token$Type")) (by decide)))
  have F269 := (F_offset).other W262 (Or.inr (slot_ne (Or.inr (wd hw 52 rfl)) (Or.inr (wd hw 46 rfl)) (by decide) (t := .int) (by decide) (t' := (.object "com/example/heronbus/heronbus/selector/Token$Type")) (by decide)))
  refine blk (pc' := 11) (Ls' := #[.val (.ref a), .val (.ref t), .val (.ref u), .val .null, .val (.int z)]) (st' := [(.ref u), (.ref a)]) [oAloadN w260.ok (dc.g 5 rfl), oAloadN w260.ok (dc.g 6 rfl)] rfl ?_
  refine w260.put (wd hw 47 rfl) F267 X265 (Or.inr ⟨(wd hw 48 rfl), rfl, rfl⟩) (wd hw 28 rfl) (ty := (.object "java/lang/String")) (by decide) rfl rfl (Safe.exa w260.alike X265 (by decide) (by decide)) ha (dc.g 7 rfl) ?_
  intro T270 h272 w271 W273 S274
  show Go κ _ T270 14 #[.val (.ref a), .val (.ref t), .val (.ref u), .val .null, .val (.int z)] []
  have K275 := (K264).wr W273 (Or.inl (List.mem_of_getElem? (i := 0) rfl))
  have X276 := (X265).wr W273
  have F277 := (F266).other W273 (Or.inr (slot_ne (Or.inr (wd hw 46 rfl)) (Or.inr (wd hw 48 rfl)) (by decide) (t := (.object "com/example/heronbus/heronbus/selector/Token$Type")) (by decide) (t' := (.object "java/lang/String")) (by decide)))
  have F278 : Fld Z h272 a "com/example/heronbus/heronbus/selector/Token" "text" "Ljava/lang/String;" (.ref u) := (F267).same W273
  have F279 := (F268).other W273 (Or.inr (slot_ne (Or.inr (wd hw 50 rfl)) (Or.inr (wd hw 48 rfl)) (by decide) (t := (.object "java/lang/Object")) (by decide) (t' := (.object "java/lang/String")) (by decide)))
  have F280 := (F269).other W273 (Or.inr (slot_ne (Or.inr (wd hw 52 rfl)) (Or.inr (wd hw 48 rfl)) (by decide) (t := .int) (by decide) (t' := (.object "java/lang/String")) (by decide)))
  refine blk (pc' := 16) (Ls' := #[.val (.ref a), .val (.ref t), .val (.ref u), .val .null, .val (.int z)]) (st' := [.null, (.ref a)]) [oAloadN w271.ok (dc.g 8 rfl), oAloadN w271.ok (dc.g 9 rfl)] rfl ?_
  refine w271.put (wd hw 49 rfl) F279 X276 (Or.inr ⟨(wd hw 50 rfl), rfl, rfl⟩) (wd hw 28 rfl) (ty := (.object "java/lang/Object")) (by decide) rfl rfl (Safe.exa w271.alike X276 (by decide) (by decide)) ha (dc.g 10 rfl) ?_
  intro T281 h283 w282 W284 S285
  show Go κ _ T281 19 #[.val (.ref a), .val (.ref t), .val (.ref u), .val .null, .val (.int z)] []
  have K286 := (K275).wr W284 (Or.inl (List.mem_of_getElem? (i := 0) rfl))
  have X287 := (X276).wr W284
  have F288 := (F277).other W284 (Or.inr (slot_ne (Or.inr (wd hw 46 rfl)) (Or.inr (wd hw 50 rfl)) (by decide) (t := (.object "com/example/heronbus/heronbus/selector/Token$Type")) (by decide) (t' := (.object "java/lang/Object")) (by decide)))
  have F289 := (F278).other W284 (Or.inr (slot_ne (Or.inr (wd hw 48 rfl)) (Or.inr (wd hw 50 rfl)) (by decide) (t := (.object "java/lang/String")) (by decide) (t' := (.object "java/lang/Object")) (by decide)))
  have F290 : Fld Z h283 a "com/example/heronbus/heronbus/selector/Token" "value" "Ljava/lang/Object;" .null := (F279).same W284
  have F291 := (F280).other W284 (Or.inr (slot_ne (Or.inr (wd hw 52 rfl)) (Or.inr (wd hw 50 rfl)) (by decide) (t := .int) (by decide) (t' := (.object "java/lang/Object")) (by decide)))
  refine blk (pc' := 22) (Ls' := #[.val (.ref a), .val (.ref t), .val (.ref u), .val .null, .val (.int z)]) (st' := [(.int z), (.ref a)]) [oAloadN w282.ok (dc.g 11 rfl), oIload w282.ok (dc.g 12 rfl)] rfl ?_
  refine w282.put (wd hw 51 rfl) F291 X287 (Or.inr ⟨(wd hw 52 rfl), rfl, rfl⟩) (wd hw 28 rfl) (ty := .int) (by decide) rfl rfl (Safe.exa w282.alike X287 (by decide) (by decide)) ha (dc.g 13 rfl) ?_
  intro T292 h294 w293 W295 S296
  show Go κ _ T292 25 #[.val (.ref a), .val (.ref t), .val (.ref u), .val .null, .val (.int z)] []
  have K297 := (K286).wr W295 (Or.inl (List.mem_of_getElem? (i := 0) rfl))
  have X298 := (X287).wr W295
  have F299 := (F288).other W295 (Or.inr (slot_ne (Or.inr (wd hw 46 rfl)) (Or.inr (wd hw 52 rfl)) (by decide) (t := (.object "com/example/heronbus/heronbus/selector/Token$Type")) (by decide) (t' := .int) (by decide)))
  have F300 := (F289).other W295 (Or.inr (slot_ne (Or.inr (wd hw 48 rfl)) (Or.inr (wd hw 52 rfl)) (by decide) (t := (.object "java/lang/String")) (by decide) (t' := .int) (by decide)))
  have F301 := (F290).other W295 (Or.inr (slot_ne (Or.inr (wd hw 50 rfl)) (Or.inr (wd hw 52 rfl)) (by decide) (t := (.object "java/lang/Object")) (by decide) (t' := .int) (by decide)))
  have F302 : Fld Z h294 a "com/example/heronbus/heronbus/selector/Token" "offset" "I" (.int z) := (F291).same W295
  exact w293.retV (dc.g 14 rfl) (by decide) (by decide) (fun S hS => ⟨rfl, K297, X298, F299, F300⟩)
def D_is : List (Nat × Instr × Nat) := [(0, .aload_n 0, 1), (1, .getfield 7, 3), (4, .aload_n 1, 1), (5, .if_acmp .ne 18, 3), (8, .aload_n 0, 1), (9, .getfield 13, 3), (12, .aload_n 2, 1), (13, .invokevirtual 25, 3), (16, .ifCond .eq 7, 3), (19, .iconst 1, 1), (20, .goto 4, 3), (23, .iconst 0, 1), (24, .ireturn, 1)]
theorem hD_is : ∀ q ∈ D_is, decode prog_110_method_2_code q.1 = .ok q.2 := by decide +kernel
set_option maxRecDepth 65536 in
set_option maxHeartbeats 4000000 in
theorem c_is (l : Launch) (Z : State) (a0 : Array Value) (hw : ∀ d ∈ tables_1, d.before a0 Z = true) (hEL : EW Z a0 consts_1) (hJS : JS Z) (ty : Nat → Addr) (hTY : TY Z ty) {a t u t2 u2 : Addr} {cs ds : List Int32} {h : Heap} (oz : Ext Z.heap h) (F1 : Fld Z h a "com/example/heronbus/heronbus/selector/Token" "type" "Lcom/example/heronbus/heronbus/selector/Token$Type;" (.ref t)) (F2 : Fld Z h a "com/example/heronbus/heronbus/selector/Token" "text" "Ljava/lang/String;" (.ref u)) (G1 : Str Z h u cs) (G2 : Str Z h u2 ds) (hL : IsL cs) (hM : IsL ds) : Ctr l Z consts_1 (⟨"com/example/heronbus/heronbus/selector/Token", "is", "(Lcom/example/heronbus/heronbus/selector/Token$Type;Ljava/lang/String;)Z"⟩ : MethodName) prog_110_method_2_code 3 (some .boolean) [] ({ frames := 2, cells := 0, slots := 0, locals := 28 } : Room) [] #[(.ref a), (.ref t2), (.ref u2)] h (fun v h' S => h = h' ∧ v = some (.int (if t = t2 ∧ cs = ds then 1 else 0))) := by
  refine enter (a0 := a0) (by first | (simp [plainName, overriddenIn]; done) | decide +kernel) hEL (Ls := #[.val (.ref a), .val (.ref t2), .val (.ref u2)]) (fun m => by first | (simp [entryFrame, mkF, argsToLocals, Value.category]; done) | rfl) ?_
  intro κ vm T hby hs w Sf
  have dc := Dec.of hby hD_is
  show Go κ (GQ κ Z consts_1 ({ frames := 2, cells := 0, slots := 0, locals := 28 } : Room) (fun v h' S => h = h' ∧ v = some (.int (if t = t2 ∧ cs = ds then 1 else 0)))) T 0 #[.val (.ref a), .val (.ref t2), .val (.ref u2)] []
  have ozs : Ext Z.heap κ.s.heap := by rw [hs]; exact oz
  refine blk (pc' := 1) (Ls' := #[.val (.ref a), .val (.ref t2), .val (.ref u2)]) (st' := [(.ref a)]) [oAloadN w.ok (dc.g 0 rfl)] rfl ?_
  refine w.get (wd hw 45 rfl) F1 (dc.g 1 rfl) ?_
  intro T303 w304
  show Go κ _ T303 4 #[.val (.ref a), .val (.ref t2), .val (.ref u2)] [(.ref t)]
  refine blk (pc' := 5) (Ls' := #[.val (.ref a), .val (.ref t2), .val (.ref u2)]) (st' := [(.ref t2), (.ref t)]) [oAloadN w304.ok (dc.g 2 rfl)] rfl ?_
  refine w304.acmp (pc' := 23) (dc.g 3 rfl) (by decide) (by decide) (fun hc305 => ?_) (fun hc305 => ?_)
  · show Go κ _ T303 23 #[.val (.ref a), .val (.ref t2), .val (.ref u2)] []
    refine blk (pc' := 24) (Ls' := #[.val (.ref a), .val (.ref t2), .val (.ref u2)]) (st' := [(.int (0 : Int32))]) [oIconst w304.ok (dc.g 11 rfl)] rfl ?_
    exact w304.retI (t := .boolean) rfl (Or.inr (Or.inl rfl)) rfl (dc.g 12 rfl) (by decide) (by decide) (fun S hS => ⟨rfl, by rw [if_neg (fun q => hc305 q.1)]⟩)
  · show Go κ _ T303 8 #[.val (.ref a), .val (.ref t2), .val (.ref u2)] []
    refine blk (pc' := 9) (Ls' := #[.val (.ref a), .val (.ref t2), .val (.ref u2)]) (st' := [(.ref a)]) [oAloadN w304.ok (dc.g 4 rfl)] rfl ?_
    refine w304.get (wd hw 47 rfl) F2 (dc.g 5 rfl) ?_
    intro T306 w307
    show Go κ _ T306 12 #[.val (.ref a), .val (.ref t2), .val (.ref u2)] [(.ref u)]
    refine blk (pc' := 13) (Ls' := #[.val (.ref a), .val (.ref t2), .val (.ref u2)]) (st' := [(.ref u2), (.ref u)]) [oAloadN w307.ok (dc.g 6 rfl)] rfl ?_
    refine w307.callV (wd hw 77 rfl) (wd hw 78 rfl) (notFace (wd hw 80 rfl)) (wd hw 80 rfl) (wd hw 79 rfl) (by decide) (a := u) G1.exa (argsL := [(.ref u2)]) (Wd := 0) (Ctr.pays (len := 3) (Wd := 0) (c_eqs l Z a0 hw hEL hJS ty hTY (w307.old ozs) G1 G2 hL hM) w307 (wd hw 81 rfl) (wd hw 7 rfl) hEL (by decide) (by decide) sfNil) pd7 rfl (st := []) rfl rfl (Nat.le_of_eq rfl) (dc.g 7 rfl) (by decide) (by decide) ?_
    intro vm308 T309 h310 v311 w312 C313 Q314
    obtain ⟨e2, rfl⟩ := Q314
    subst e2
    show Go κ _ T309 16 #[.val (.ref a), .val (.ref t2), .val (.ref u2)] [(.int (if cs = ds then (1 : Int32) else 0))]
    by_cases hq : cs = ds
    · refine Go.top (y := (1 : Int32)) (if_pos hq) ?_
      show Go κ _ T309 16 #[.val (.ref a), .val (.ref t2), .val (.ref u2)] [(.int (1 : Int32))]
      refine zEq (pc' := 23) w312.ok (dc.g 8 rfl) (by decide) (by decide) (fun hc315 => absurd hc315 (by decide)) (fun hc315 => ?_)
      show Go κ _ T309 19 #[.val (.ref a), .val (.ref t2), .val (.ref u2)] []
      refine blk (pc' := 24) (Ls' := #[.val (.ref a), .val (.ref t2), .val (.ref u2)]) (st' := [(.int (1 : Int32))]) [oIconst w312.ok (dc.g 9 rfl), oGoto w312.ok 24 (dc.g 10 rfl)] rfl ?_
      exact w312.retI (t := .boolean) rfl (Or.inr (Or.inl rfl)) rfl (dc.g 12 rfl) (by decide) (by decide) (fun S hS => ⟨rfl, by rw [if_pos ⟨hc305, hq⟩]⟩)
    · refine Go.top (y := (0 : Int32)) (if_neg hq) ?_
      show Go κ _ T309 16 #[.val (.ref a), .val (.ref t2), .val (.ref u2)] [(.int (0 : Int32))]
      refine zEq (pc' := 23) w312.ok (dc.g 8 rfl) (by decide) (by decide) (fun hc316 => ?_) (fun hc316 => absurd rfl hc316)
      show Go κ _ T309 23 #[.val (.ref a), .val (.ref t2), .val (.ref u2)] []
      refine blk (pc' := 24) (Ls' := #[.val (.ref a), .val (.ref t2), .val (.ref u2)]) (st' := [(.int (0 : Int32))]) [oIconst w312.ok (dc.g 11 rfl)] rfl ?_
      exact w312.retI (t := .boolean) rfl (Or.inr (Or.inl rfl)) rfl (dc.g 12 rfl) (by decide) (by decide) (fun S hS => ⟨rfl, by rw [if_neg (fun q => hq q.2)]⟩)
def D_law : List (Nat × Instr × Nat) := [(0, .iload_n 0, 1), (1, .ldc 30, 2), (3, .iand, 1), (4, .iconst 5, 1), (5, .irem, 1), (6, .istore 5, 2), (8, .iload_n 1, 1), (9, .ldc 30, 2), (11, .iand, 1), (12, .iconst 5, 1), (13, .irem, 1), (14, .istore 6, 2), (16, .iload 4, 2), (18, .ldc 30, 2), (20, .iand, 1), (21, .iconst 3, 1), (22, .irem, 1), (23, .istore 7, 2), (25, .iload 4, 2), (27, .bipush 8, 2), (29, .iushr, 1), (30, .ldc 30, 2), (32, .iand, 1), (33, .iconst 3, 1), (34, .irem, 1), (35, .istore 8, 2), (37, .iload_n 2, 1), (38, .sipush 255, 3), (41, .iand, 1), (42, .i2c, 1), (43, .istore 9, 2), (45, .iload_n 2, 1), (46, .bipush 8, 2), (48, .iushr, 1), (49, .sipush 255, 3), (52, .iand, 1), (53, .i2c, 1), (54, .istore 10, 2), (56, .iload_n 3, 1), (57, .sipush 255, 3), (60, .iand, 1), (61, .i2c, 1), (62, .istore 11, 2), (64, .iload_n 3, 1), (65, .bipush 8, 2), (67, .iushr, 1), (68, .sipush 255, 3), (71, .iand, 1), (72, .i2c, 1), (73, .istore 12, 2), (75, .iload_n 3, 1), (76, .bipush 16, 2), (78, .iushr, 1), (79, .iconst 1, 1), (80, .iand, 1), (81, .ifCond .eq 7, 3), (84, .iload 9, 2), (86, .istore 11, 2), (88, .iload_n 3, 1), (89, .bipush 17, 2), (91, .iushr, 1), (92, .iconst 1, 1), (93, .iand, 1), (94, .ifCond .eq 7, 3), (97, .iload 10, 2), (99, .istore 12, 2), (101, .iload 7, 2), (103, .iload 9, 2), (105, .iload 10, 2), (107, .invokestatic 31, 3), (110, .astore 13, 2), (112, .iload 8, 2), (114, .iload 11, 2), (116, .iload 12, 2), (118, .invokestatic 31, 3), (121, .astore 14, 2), (123, .new 37, 3), (126, .dup, 1), (127, .iload 5, 2), (129, .invokestatic 39, 3), (132, .aload 13, 2), (134, .aconst_null, 1), (135, .iload_n 2, 1), (136, .invokespecial 43, 3), (139, .astore 15, 2), (141, .aload 15, 2), (143, .iload 6, 2), (145, .invokestatic 39, 3), (148, .aload 14, 2), (150, .invokevirtual 46, 3), (153, .istore 16, 2), (155, .iload 7, 2), (157, .iload 8, 2), (159, .if_icmp .ne 33, 3), (162, .iload 7, 2), (164, .iconst 1, 1), (165, .if_icmp .lt 10, 3), (168, .iload 9, 2), (170, .iload 11, 2), (172, .if_icmp .ne 20, 3), (175, .iload 7, 2), (177, .iconst 2, 1), (178, .if_icmp .lt 10, 3), (181, .iload 10, 2), (183, .iload 12, 2), (185, .if_icmp .ne 7, 3), (188, .iconst 1, 1), (189, .goto 4, 3), (192, .iconst 0, 1), (193, .istore 17, 2), (195, .iload 5, 2), (197, .iload 6, 2), (199, .if_icmp .ne 12, 3), (202, .iload 17, 2), (204, .ifCond .eq 7, 3), (207, .iconst 1, 1), (208, .goto 4, 3), (211, .iconst 0, 1), (212, .istore 18, 2), (214, .iload 16, 2), (216, .iload 18, 2), (218, .if_icmp .ne 7, 3), (221, .iconst 1, 1), (222, .goto 4, 3), (225, .iconst 0, 1), (226, .ireturn, 1)]
theorem hD_law : ∀ q ∈ D_law, decode code q.1 = .ok q.2 := by decide +kernel
set_option maxRecDepth 65536 in
set_option maxHeartbeats 4000000 in
theorem c_law (l : Launch) (Z : State) (a0 : Array Value) (hw : ∀ d ∈ tables_1, d.before a0 Z = true) (hEL : EW Z a0 consts_1) (hJS : JS Z) (ty : Nat → Addr) (hTY : TY Z ty) {p0 p1 p2 p3 p4 : Int32} (h : Heap) (oz : Ext Z.heap h) (ws : List Jvm.Cond) : Ctr l Z consts_1 x code maxLocals ret ws room_1 [] #[(.int p0), (.int p1), (.int p2), (.int p3), (.int p4)] h (fun v h' S => v = some (.int 1)) := by
  refine enter (a0 := a0) (by first | (simp [plainName, overriddenIn]; done) | decide +kernel) hEL (Ls := #[.val (.int p0), .val (.int p1), .val (.int p2), .val (.int p3), .val (.int p4), .unset, .unset, .unset, .unset, .unset, .unset, .unset, .unset, .unset, .unset, .unset, .unset, .unset, .unset]) (fun m => by first | (simp [entryFrame, mkF, argsToLocals, Value.category, maxLocals]; done) | rfl) ?_
  intro κ vm T hby hs w Sf
  have dc := Dec.of hby hD_law
  show Go κ (GQ κ Z consts_1 room_1 (fun v h' S => v = some (.int 1))) T 0 #[.val (.int p0), .val (.int p1), .val (.int p2), .val (.int p3), .val (.int p4), .unset, .unset, .unset, .unset, .unset, .unset, .unset, .unset, .unset, .unset, .unset, .unset, .unset, .unset] []
  have ozs : Ext Z.heap κ.s.heap := by rw [hs]; exact oz
  refine blk (pc' := 1) (Ls' := #[.val (.int p0), .val (.int p1), .val (.int p2), .val (.int p3), .val (.int p4), .unset, .unset, .unset, .unset, .unset, .unset, .unset, .unset, .unset, .unset, .unset, .unset, .unset, .unset]) (st' := [(.int p0)]) [oIloadN w.ok (dc.g 0 rfl)] rfl ?_
  refine w.ldcI (wd hw 0 rfl) (dc.g 1 rfl) ?_
  show Go κ _ T 3 #[.val (.int p0), .val (.int p1), .val (.int p2), .val (.int p3), .val (.int p4), .unset, .unset, .unset, .unset, .unset, .unset, .unset, .unset, .unset, .unset, .unset, .unset, .unset, .unset] [(.int (2147483647 : Int32)), (.int p0)]
  refine blk (pc' := 8) (Ls' := #[.val (.int p0), .val (.int p1), .val (.int p2), .val (.int p3), .val (.int p4), .val (.int ((p0 &&& (2147483647 : Int32)) % (5 : Int32))), .unset, .unset, .unset, .unset, .unset, .unset, .unset, .unset, .unset, .unset, .unset, .unset, .unset]) (st' := []) [oIand w.ok (dc.g 2 rfl), oIconst w.ok (dc.g 3 rfl), oIrem w.ok (dc.g 4 rfl), oIstore w.ok (dc.g 5 rfl)] rfl ?_
  obtain ⟨k1, hk1, ek1⟩ := remNat p0 (2147483647 : Int32) (5 : Int32) 5 (by decide) (by decide) (by decide)
  rw [ek1]
  show Go κ _ T 8 #[.val (.int p0), .val (.int p1), .val (.int p2), .val (.int p3), .val (.int p4), .val (.int (Int32.ofNat k1)), .unset, .unset, .unset, .unset, .unset, .unset, .unset, .unset, .unset, .unset, .unset, .unset, .unset] []
  refine blk (pc' := 9) (Ls' := #[.val (.int p0), .val (.int p1), .val (.int p2), .val (.int p3), .val (.int p4), .val (.int (Int32.ofNat k1)), .unset, .unset, .unset, .unset, .unset, .unset, .unset, .unset, .unset, .unset, .unset, .unset, .unset]) (st' := [(.int p1)]) [oIloadN w.ok (dc.g 6 rfl)] rfl ?_
  refine w.ldcI (wd hw 0 rfl) (dc.g 7 rfl) ?_
  show Go κ _ T 11 #[.val (.int p0), .val (.int p1), .val (.int p2), .val (.int p3), .val (.int p4), .val (.int (Int32.ofNat k1)), .unset, .unset, .unset, .unset, .unset, .unset, .unset, .unset, .unset, .unset, .unset, .unset, .unset] [(.int (2147483647 : Int32)), (.int p1)]
  refine blk (pc' := 16) (Ls' := #[.val (.int p0), .val (.int p1), .val (.int p2), .val (.int p3), .val (.int p4), .val (.int (Int32.ofNat k1)), .val (.int ((p1 &&& (2147483647 : Int32)) % (5 : Int32))), .unset, .unset, .unset, .unset, .unset, .unset, .unset, .unset, .unset, .unset, .unset, .unset]) (st' := []) [oIand w.ok (dc.g 8 rfl), oIconst w.ok (dc.g 9 rfl), oIrem w.ok (dc.g 10 rfl), oIstore w.ok (dc.g 11 rfl)] rfl ?_
  obtain ⟨k2, hk2, ek2⟩ := remNat p1 (2147483647 : Int32) (5 : Int32) 5 (by decide) (by decide) (by decide)
  rw [ek2]
  show Go κ _ T 16 #[.val (.int p0), .val (.int p1), .val (.int p2), .val (.int p3), .val (.int p4), .val (.int (Int32.ofNat k1)), .val (.int (Int32.ofNat k2)), .unset, .unset, .unset, .unset, .unset, .unset, .unset, .unset, .unset, .unset, .unset, .unset] []
  refine blk (pc' := 18) (Ls' := #[.val (.int p0), .val (.int p1), .val (.int p2), .val (.int p3), .val (.int p4), .val (.int (Int32.ofNat k1)), .val (.int (Int32.ofNat k2)), .unset, .unset, .unset, .unset, .unset, .unset, .unset, .unset, .unset, .unset, .unset, .unset]) (st' := [(.int p4)]) [oIload w.ok (dc.g 12 rfl)] rfl ?_
  refine w.ldcI (wd hw 0 rfl) (dc.g 13 rfl) ?_
  show Go κ _ T 20 #[.val (.int p0), .val (.int p1), .val (.int p2), .val (.int p3), .val (.int p4), .val (.int (Int32.ofNat k1)), .val (.int (Int32.ofNat k2)), .unset, .unset, .unset, .unset, .unset, .unset, .unset, .unset, .unset, .unset, .unset, .unset] [(.int (2147483647 : Int32)), (.int p4)]
  refine blk (pc' := 25) (Ls' := #[.val (.int p0), .val (.int p1), .val (.int p2), .val (.int p3), .val (.int p4), .val (.int (Int32.ofNat k1)), .val (.int (Int32.ofNat k2)), .val (.int ((p4 &&& (2147483647 : Int32)) % (3 : Int32))), .unset, .unset, .unset, .unset, .unset, .unset, .unset, .unset, .unset, .unset, .unset]) (st' := []) [oIand w.ok (dc.g 14 rfl), oIconst w.ok (dc.g 15 rfl), oIrem w.ok (dc.g 16 rfl), oIstore w.ok (dc.g 17 rfl)] rfl ?_
  obtain ⟨n1, hn1, en1⟩ := remNat p4 (2147483647 : Int32) (3 : Int32) 3 (by decide) (by decide) (by decide)
  rw [en1]
  show Go κ _ T 25 #[.val (.int p0), .val (.int p1), .val (.int p2), .val (.int p3), .val (.int p4), .val (.int (Int32.ofNat k1)), .val (.int (Int32.ofNat k2)), .val (.int (Int32.ofNat n1)), .unset, .unset, .unset, .unset, .unset, .unset, .unset, .unset, .unset, .unset, .unset] []
  refine blk (pc' := 30) (Ls' := #[.val (.int p0), .val (.int p1), .val (.int p2), .val (.int p3), .val (.int p4), .val (.int (Int32.ofNat k1)), .val (.int (Int32.ofNat k2)), .val (.int (Int32.ofNat n1)), .unset, .unset, .unset, .unset, .unset, .unset, .unset, .unset, .unset, .unset, .unset]) (st' := [(.int ((p4).toUInt32 >>> ((8 : Int32) &&& 31).toUInt32).toInt32)]) [oIload w.ok (dc.g 18 rfl), oBipush w.ok (dc.g 19 rfl), oIushr w.ok (dc.g 20 rfl)] rfl ?_
  refine w.ldcI (wd hw 0 rfl) (dc.g 21 rfl) ?_
  show Go κ _ T 32 #[.val (.int p0), .val (.int p1), .val (.int p2), .val (.int p3), .val (.int p4), .val (.int (Int32.ofNat k1)), .val (.int (Int32.ofNat k2)), .val (.int (Int32.ofNat n1)), .unset, .unset, .unset, .unset, .unset, .unset, .unset, .unset, .unset, .unset, .unset] [(.int (2147483647 : Int32)), (.int ((p4).toUInt32 >>> ((8 : Int32) &&& 31).toUInt32).toInt32)]
  refine blk (pc' := 37) (Ls' := #[.val (.int p0), .val (.int p1), .val (.int p2), .val (.int p3), .val (.int p4), .val (.int (Int32.ofNat k1)), .val (.int (Int32.ofNat k2)), .val (.int (Int32.ofNat n1)), .val (.int ((((p4).toUInt32 >>> ((8 : Int32) &&& 31).toUInt32).toInt32 &&& (2147483647 : Int32)) % (3 : Int32))), .unset, .unset, .unset, .unset, .unset, .unset, .unset, .unset, .unset, .unset]) (st' := []) [oIand w.ok (dc.g 22 rfl), oIconst w.ok (dc.g 23 rfl), oIrem w.ok (dc.g 24 rfl), oIstore w.ok (dc.g 25 rfl)] rfl ?_
  obtain ⟨n2, hn2, en2⟩ := remNat ((p4).toUInt32 >>> ((8 : Int32) &&& 31).toUInt32).toInt32 (2147483647 : Int32) (3 : Int32) 3 (by decide) (by decide) (by decide)
  rw [en2]
  show Go κ _ T 37 #[.val (.int p0), .val (.int p1), .val (.int p2), .val (.int p3), .val (.int p4), .val (.int (Int32.ofNat k1)), .val (.int (Int32.ofNat k2)), .val (.int (Int32.ofNat n1)), .val (.int (Int32.ofNat n2)), .unset, .unset, .unset, .unset, .unset, .unset, .unset, .unset, .unset, .unset] []
  refine blk (pc' := 75) (Ls' := #[.val (.int p0), .val (.int p1), .val (.int p2), .val (.int p3), .val (.int p4), .val (.int (Int32.ofNat k1)), .val (.int (Int32.ofNat k2)), .val (.int (Int32.ofNat n1)), .val (.int (Int32.ofNat n2)), .val (.int (((p2 &&& (255 : Int32))).toUInt32.toUInt16.toUInt32.toInt32)), .val (.int (((((p2).toUInt32 >>> ((8 : Int32) &&& 31).toUInt32).toInt32 &&& (255 : Int32))).toUInt32.toUInt16.toUInt32.toInt32)), .val (.int (((p3 &&& (255 : Int32))).toUInt32.toUInt16.toUInt32.toInt32)), .val (.int (((((p3).toUInt32 >>> ((8 : Int32) &&& 31).toUInt32).toInt32 &&& (255 : Int32))).toUInt32.toUInt16.toUInt32.toInt32)), .unset, .unset, .unset, .unset, .unset, .unset]) (st' := []) [oIloadN w.ok (dc.g 26 rfl), oSipush w.ok (dc.g 27 rfl), oIand w.ok (dc.g 28 rfl), oI2c w.ok (dc.g 29 rfl), oIstore w.ok (dc.g 30 rfl), oIloadN w.ok (dc.g 31 rfl), oBipush w.ok (dc.g 32 rfl), oIushr w.ok (dc.g 33 rfl), oSipush w.ok (dc.g 34 rfl), oIand w.ok (dc.g 35 rfl), oI2c w.ok (dc.g 36 rfl), oIstore w.ok (dc.g 37 rfl), oIloadN w.ok (dc.g 38 rfl), oSipush w.ok (dc.g 39 rfl), oIand w.ok (dc.g 40 rfl), oI2c w.ok (dc.g 41 rfl), oIstore w.ok (dc.g 42 rfl), oIloadN w.ok (dc.g 43 rfl), oBipush w.ok (dc.g 44 rfl), oIushr w.ok (dc.g 45 rfl), oSipush w.ok (dc.g 46 rfl), oIand w.ok (dc.g 47 rfl), oI2c w.ok (dc.g 48 rfl), oIstore w.ok (dc.g 49 rfl)] rfl ?_
  have bc0 := and255 p2
  generalize (((p2 &&& (255 : Int32))).toUInt32.toUInt16.toUInt32.toInt32) = c0 at bc0 ⊢
  show Go κ _ T 75 #[.val (.int p0), .val (.int p1), .val (.int p2), .val (.int p3), .val (.int p4), .val (.int (Int32.ofNat k1)), .val (.int (Int32.ofNat k2)), .val (.int (Int32.ofNat n1)), .val (.int (Int32.ofNat n2)), .val (.int c0), .val (.int (((((p2).toUInt32 >>> ((8 : Int32) &&& 31).toUInt32).toInt32 &&& (255 : Int32))).toUInt32.toUInt16.toUInt32.toInt32)), .val (.int (((p3 &&& (255 : Int32))).toUInt32.toUInt16.toUInt32.toInt32)), .val (.int (((((p3).toUInt32 >>> ((8 : Int32) &&& 31).toUInt32).toInt32 &&& (255 : Int32))).toUInt32.toUInt16.toUInt32.toInt32)), .unset, .unset, .unset, .unset, .unset, .unset] []
  have bc1 := and255 ((p2).toUInt32 >>> ((8 : Int32) &&& 31).toUInt32).toInt32
  generalize (((((p2).toUInt32 >>> ((8 : Int32) &&& 31).toUInt32).toInt32 &&& (255 : Int32))).toUInt32.toUInt16.toUInt32.toInt32) = c1 at bc1 ⊢
  show Go κ _ T 75 #[.val (.int p0), .val (.int p1), .val (.int p2), .val (.int p3), .val (.int p4), .val (.int (Int32.ofNat k1)), .val (.int (Int32.ofNat k2)), .val (.int (Int32.ofNat n1)), .val (.int (Int32.ofNat n2)), .val (.int c0), .val (.int c1), .val (.int (((p3 &&& (255 : Int32))).toUInt32.toUInt16.toUInt32.toInt32)), .val (.int (((((p3).toUInt32 >>> ((8 : Int32) &&& 31).toUInt32).toInt32 &&& (255 : Int32))).toUInt32.toUInt16.toUInt32.toInt32)), .unset, .unset, .unset, .unset, .unset, .unset] []
  have bq0 := and255 p3
  generalize (((p3 &&& (255 : Int32))).toUInt32.toUInt16.toUInt32.toInt32) = q0 at bq0 ⊢
  show Go κ _ T 75 #[.val (.int p0), .val (.int p1), .val (.int p2), .val (.int p3), .val (.int p4), .val (.int (Int32.ofNat k1)), .val (.int (Int32.ofNat k2)), .val (.int (Int32.ofNat n1)), .val (.int (Int32.ofNat n2)), .val (.int c0), .val (.int c1), .val (.int q0), .val (.int (((((p3).toUInt32 >>> ((8 : Int32) &&& 31).toUInt32).toInt32 &&& (255 : Int32))).toUInt32.toUInt16.toUInt32.toInt32)), .unset, .unset, .unset, .unset, .unset, .unset] []
  have bq1 := and255 ((p3).toUInt32 >>> ((8 : Int32) &&& 31).toUInt32).toInt32
  generalize (((((p3).toUInt32 >>> ((8 : Int32) &&& 31).toUInt32).toInt32 &&& (255 : Int32))).toUInt32.toUInt16.toUInt32.toInt32) = q1 at bq1 ⊢
  show Go κ _ T 75 #[.val (.int p0), .val (.int p1), .val (.int p2), .val (.int p3), .val (.int p4), .val (.int (Int32.ofNat k1)), .val (.int (Int32.ofNat k2)), .val (.int (Int32.ofNat n1)), .val (.int (Int32.ofNat n2)), .val (.int c0), .val (.int c1), .val (.int q0), .val (.int q1), .unset, .unset, .unset, .unset, .unset, .unset] []
  suffices k88 : ∀ r0 : Int32, (¬ r0 < 0 ∧ ¬ 255 < r0) → Go κ (GQ κ Z consts_1 room_1 (fun v h' S => v = some (.int 1))) T 88 #[.val (.int p0), .val (.int p1), .val (.int p2), .val (.int p3), .val (.int p4), .val (.int (Int32.ofNat k1)), .val (.int (Int32.ofNat k2)), .val (.int (Int32.ofNat n1)), .val (.int (Int32.ofNat n2)), .val (.int c0), .val (.int c1), .val (.int r0), .val (.int q1), .unset, .unset, .unset, .unset, .unset, .unset] [] by
    refine blk (pc' := 81) (Ls' := #[.val (.int p0), .val (.int p1), .val (.int p2), .val (.int p3), .val (.int p4), .val (.int (Int32.ofNat k1)), .val (.int (Int32.ofNat k2)), .val (.int (Int32.ofNat n1)), .val (.int (Int32.ofNat n2)), .val (.int c0), .val (.int c1), .val (.int q0), .val (.int q1), .unset, .unset, .unset, .unset, .unset, .unset]) (st' := [(.int (((p3).toUInt32 >>> ((16 : Int32) &&& 31).toUInt32).toInt32 &&& (1 : Int32)))]) [oIloadN w.ok (dc.g 50 rfl), oBipush w.ok (dc.g 51 rfl), oIushr w.ok (dc.g 52 rfl), oIconst w.ok (dc.g 53 rfl), oIand w.ok (dc.g 54 rfl)] rfl ?_
    refine zEq (pc' := 88) w.ok (dc.g 55 rfl) (by decide) (by decide) (fun hc317 => ?_) (fun hc317 => ?_)
    · show Go κ _ T 88 #[.val (.int p0), .val (.int p1), .val (.int p2), .val (.int p3), .val (.int p4), .val (.int (Int32.ofNat k1)), .val (.int (Int32.ofNat k2)), .val (.int (Int32.ofNat n1)), .val (.int (Int32.ofNat n2)), .val (.int c0), .val (.int c1), .val (.int q0), .val (.int q1), .unset, .unset, .unset, .unset, .unset, .unset] []
      exact k88 _ bq0
    · show Go κ _ T 84 #[.val (.int p0), .val (.int p1), .val (.int p2), .val (.int p3), .val (.int p4), .val (.int (Int32.ofNat k1)), .val (.int (Int32.ofNat k2)), .val (.int (Int32.ofNat n1)), .val (.int (Int32.ofNat n2)), .val (.int c0), .val (.int c1), .val (.int q0), .val (.int q1), .unset, .unset, .unset, .unset, .unset, .unset] []
      refine blk (pc' := 88) (Ls' := #[.val (.int p0), .val (.int p1), .val (.int p2), .val (.int p3), .val (.int p4), .val (.int (Int32.ofNat k1)), .val (.int (Int32.ofNat k2)), .val (.int (Int32.ofNat n1)), .val (.int (Int32.ofNat n2)), .val (.int c0), .val (.int c1), .val (.int c0), .val (.int q1), .unset, .unset, .unset, .unset, .unset, .unset]) (st' := []) [oIload w.ok (dc.g 56 rfl), oIstore w.ok (dc.g 57 rfl)] rfl ?_
      exact k88 _ bc0
  intro r0 br0
  suffices k101 : ∀ r1 : Int32, (¬ r1 < 0 ∧ ¬ 255 < r1) → Go κ (GQ κ Z consts_1 room_1 (fun v h' S => v = some (.int 1))) T 101 #[.val (.int p0), .val (.int p1), .val (.int p2), .val (.int p3), .val (.int p4), .val (.int (Int32.ofNat k1)), .val (.int (Int32.ofNat k2)), .val (.int (Int32.ofNat n1)), .val (.int (Int32.ofNat n2)), .val (.int c0), .val (.int c1), .val (.int r0), .val (.int r1), .unset, .unset, .unset, .unset, .unset, .unset] [] by
    refine blk (pc' := 94) (Ls' := #[.val (.int p0), .val (.int p1), .val (.int p2), .val (.int p3), .val (.int p4), .val (.int (Int32.ofNat k1)), .val (.int (Int32.ofNat k2)), .val (.int (Int32.ofNat n1)), .val (.int (Int32.ofNat n2)), .val (.int c0), .val (.int c1), .val (.int r0), .val (.int q1), .unset, .unset, .unset, .unset, .unset, .unset]) (st' := [(.int (((p3).toUInt32 >>> ((17 : Int32) &&& 31).toUInt32).toInt32 &&& (1 : Int32)))]) [oIloadN w.ok (dc.g 58 rfl), oBipush w.ok (dc.g 59 rfl), oIushr w.ok (dc.g 60 rfl), oIconst w.ok (dc.g 61 rfl), oIand w.ok (dc.g 62 rfl)] rfl ?_
    refine zEq (pc' := 101) w.ok (dc.g 63 rfl) (by decide) (by decide) (fun hc318 => ?_) (fun hc318 => ?_)
    · show Go κ _ T 101 #[.val (.int p0), .val (.int p1), .val (.int p2), .val (.int p3), .val (.int p4), .val (.int (Int32.ofNat k1)), .val (.int (Int32.ofNat k2)), .val (.int (Int32.ofNat n1)), .val (.int (Int32.ofNat n2)), .val (.int c0), .val (.int c1), .val (.int r0), .val (.int q1), .unset, .unset, .unset, .unset, .unset, .unset] []
      exact k101 _ bq1
    · show Go κ _ T 97 #[.val (.int p0), .val (.int p1), .val (.int p2), .val (.int p3), .val (.int p4), .val (.int (Int32.ofNat k1)), .val (.int (Int32.ofNat k2)), .val (.int (Int32.ofNat n1)), .val (.int (Int32.ofNat n2)), .val (.int c0), .val (.int c1), .val (.int r0), .val (.int q1), .unset, .unset, .unset, .unset, .unset, .unset] []
      refine blk (pc' := 101) (Ls' := #[.val (.int p0), .val (.int p1), .val (.int p2), .val (.int p3), .val (.int p4), .val (.int (Int32.ofNat k1)), .val (.int (Int32.ofNat k2)), .val (.int (Int32.ofNat n1)), .val (.int (Int32.ofNat n2)), .val (.int c0), .val (.int c1), .val (.int r0), .val (.int c1), .unset, .unset, .unset, .unset, .unset, .unset]) (st' := []) [oIload w.ok (dc.g 64 rfl), oIstore w.ok (dc.g 65 rfl)] rfl ?_
      exact k101 _ bc1
  intro r1 br1
  have L1 : IsL [c0, c1] := fun c hc => by simp at hc; rcases hc with rfl | rfl <;> first | exact bc0 | exact bc1
  have L2 : IsL [r0, r1] := fun c hc => by simp at hc; rcases hc with rfl | rfl <;> first | exact br0 | exact br1
  refine blk (pc' := 107) (Ls' := #[.val (.int p0), .val (.int p1), .val (.int p2), .val (.int p3), .val (.int p4), .val (.int (Int32.ofNat k1)), .val (.int (Int32.ofNat k2)), .val (.int (Int32.ofNat n1)), .val (.int (Int32.ofNat n2)), .val (.int c0), .val (.int c1), .val (.int r0), .val (.int r1), .unset, .unset, .unset, .unset, .unset, .unset]) (st' := [(.int c1), (.int c0), (.int (Int32.ofNat n1))]) [oIload w.ok (dc.g 66 rfl), oIload w.ok (dc.g 67 rfl), oIload w.ok (dc.g 68 rfl)] rfl ?_
  refine w.callS (wd hw 1 rfl) (wd hw 2 rfl) (wd hw 3 rfl) (wd hw 4 rfl) (by decide) (argsL := [(.int (Int32.ofNat n1)), (.int c0), (.int c1)]) (Wd := 0) (Ctr.pays (len := 3) (Wd := 0) (c_mk l Z a0 hw hEL hJS ty hTY oz hn1 L1) w (wd hw 4 rfl) (wd hw 3 rfl) hEL (by decide) (by decide) sfNil) pd8 rfl (st := []) rfl rfl (Nat.le_of_eq rfl) (dc.g 69 rfl) (by decide) (by decide) ?_
  intro vm319 T320 h321 v322 w323 C324 Q325
  obtain ⟨K1, y1, rfl, F1⟩ := Q325
  show Go κ _ T320 110 #[.val (.int p0), .val (.int p1), .val (.int p2), .val (.int p3), .val (.int p4), .val (.int (Int32.ofNat k1)), .val (.int (Int32.ofNat k2)), .val (.int (Int32.ofNat n1)), .val (.int (Int32.ofNat n2)), .val (.int c0), .val (.int c1), .val (.int r0), .val (.int r1), .unset, .unset, .unset, .unset, .unset, .unset] [(.ref y1)]
  refine blk (pc' := 118) (Ls' := #[.val (.int p0), .val (.int p1), .val (.int p2), .val (.int p3), .val (.int p4), .val (.int (Int32.ofNat k1)), .val (.int (Int32.ofNat k2)), .val (.int (Int32.ofNat n1)), .val (.int (Int32.ofNat n2)), .val (.int c0), .val (.int c1), .val (.int r0), .val (.int r1), .val (.ref y1), .unset, .unset, .unset, .unset, .unset]) (st' := [(.int r1), (.int r0), (.int (Int32.ofNat n2))]) [oAstore w323.ok (dc.g 70 rfl), oIload w323.ok (dc.g 71 rfl), oIload w323.ok (dc.g 72 rfl), oIload w323.ok (dc.g 73 rfl)] rfl ?_
  refine w323.callS (wd hw 1 rfl) (wd hw 2 rfl) (wd hw 3 rfl) (wd hw 4 rfl) (by decide) (argsL := [(.int (Int32.ofNat n2)), (.int r0), (.int r1)]) (Wd := 0) (Ctr.pays (len := 3) (Wd := 0) (c_mk l Z a0 hw hEL hJS ty hTY (w323.old ozs) hn2 L2) w323 (wd hw 4 rfl) (wd hw 3 rfl) hEL (by decide) (by decide) sfNil) pd8 rfl (st := []) rfl rfl (Nat.le_of_eq rfl) (dc.g 74 rfl) (by decide) (by decide) ?_
  intro vm326 T327 h328 v329 w330 C331 Q332
  obtain ⟨K2, y2, rfl, F2⟩ := Q332
  show Go κ _ T327 121 #[.val (.int p0), .val (.int p1), .val (.int p2), .val (.int p3), .val (.int p4), .val (.int (Int32.ofNat k1)), .val (.int (Int32.ofNat k2)), .val (.int (Int32.ofNat n1)), .val (.int (Int32.ofNat n2)), .val (.int c0), .val (.int c1), .val (.int r0), .val (.int r1), .val (.ref y1), .unset, .unset, .unset, .unset, .unset] [(.ref y2)]
  have F1 := F1.ext (Keep.toExt K2)
  refine blk (pc' := 123) (Ls' := #[.val (.int p0), .val (.int p1), .val (.int p2), .val (.int p3), .val (.int p4), .val (.int (Int32.ofNat k1)), .val (.int (Int32.ofNat k2)), .val (.int (Int32.ofNat n1)), .val (.int (Int32.ofNat n2)), .val (.int c0), .val (.int c1), .val (.int r0), .val (.int r1), .val (.ref y1), .val (.ref y2), .unset, .unset, .unset, .unset]) (st' := []) [oAstore w330.ok (dc.g 75 rfl)] rfl ?_
  have hz4 := (w330.old ozs).1
  refine w330.new (wd hw 27 rfl) (wd hw 28 rfl) (wd hw 29 rfl) (dc.g 76 rfl) (by decide) (by decide) ?_
  intro T333 h335 x336 w334 g337 E338 X339 D340 S341
  show Go κ _ T333 126 #[.val (.int p0), .val (.int p1), .val (.int p2), .val (.int p3), .val (.int p4), .val (.int (Int32.ofNat k1)), .val (.int (Int32.ofNat k2)), .val (.int (Int32.ofNat n1)), .val (.int (Int32.ofNat n2)), .val (.int c0), .val (.int c1), .val (.int r0), .val (.int r1), .val (.ref y1), .val (.ref y2), .unset, .unset, .unset, .unset] [(.ref x336)]
  have F1 := F1.ext E338
  have F2 := F2.ext E338
  refine blk (pc' := 129) (Ls' := #[.val (.int p0), .val (.int p1), .val (.int p2), .val (.int p3), .val (.int p4), .val (.int (Int32.ofNat k1)), .val (.int (Int32.ofNat k2)), .val (.int (Int32.ofNat n1)), .val (.int (Int32.ofNat n2)), .val (.int c0), .val (.int c1), .val (.int r0), .val (.int r1), .val (.ref y1), .val (.ref y2), .unset, .unset, .unset, .unset]) (st' := [(.int (Int32.ofNat k1)), (.ref x336), (.ref x336)]) [oDup w334.ok (dc.g 77 rfl), oIload w334.ok (dc.g 78 rfl)] rfl ?_
  refine w334.callS (wd hw 30 rfl) (wd hw 31 rfl) (wd hw 3 rfl) (wd hw 32 rfl) (by decide) (argsL := [(.int (Int32.ofNat k1))]) (Wd := 2) (Ctr.pays (len := 3) (Wd := 2) (c_typ l Z a0 hw hEL hJS ty hTY (w334.old ozs) hk1) w334 (wd hw 32 rfl) (wd hw 3 rfl) hEL (by decide) (by decide) sfNil) pd9 rfl (st := [(.ref x336), (.ref x336)]) rfl rfl (Nat.le_of_eq rfl) (dc.g 79 rfl) (by decide) (by decide) ?_
  intro vm342 T343 h344 v345 w346 C347 Q348
  obtain ⟨e3, rfl⟩ := Q348
  subst e3
  show Go κ _ T343 132 #[.val (.int p0), .val (.int p1), .val (.int p2), .val (.int p3), .val (.int p4), .val (.int (Int32.ofNat k1)), .val (.int (Int32.ofNat k2)), .val (.int (Int32.ofNat n1)), .val (.int (Int32.ofNat n2)), .val (.int c0), .val (.int c1), .val (.int r0), .val (.int r1), .val (.ref y1), .val (.ref y2), .unset, .unset, .unset, .unset] [(.ref (ty k1)), (.ref x336), (.ref x336)]
  refine blk (pc' := 136) (Ls' := #[.val (.int p0), .val (.int p1), .val (.int p2), .val (.int p3), .val (.int p4), .val (.int (Int32.ofNat k1)), .val (.int (Int32.ofNat k2)), .val (.int (Int32.ofNat n1)), .val (.int (Int32.ofNat n2)), .val (.int c0), .val (.int c1), .val (.int r0), .val (.int r1), .val (.ref y1), .val (.ref y2), .unset, .unset, .unset, .unset]) (st' := [(.int p2), .null, (.ref y1), (.ref (ty k1)), (.ref x336), (.ref x336)]) [oAload w346.ok (dc.g 80 rfl), oAnull w346.ok (dc.g 81 rfl), oIloadN w346.ok (dc.g 82 rfl)] rfl ?_
  refine w346.callI rfl (wd hw 36 rfl) (wd hw 37 rfl) (wd hw 38 rfl) (by decide) (a := x336) (argsL := [(.ref (ty k1)), (.ref y1), .null, (.int p2)]) (Wd := 1) (Ctr.pays (len := 3) (Wd := 1) (c_tok l Z a0 hw hEL hJS ty hTY (by rw [g337]; exact hz4) X339 (D340 (Or.inr (wd hw 46 rfl)) (ty := (.object "com/example/heronbus/heronbus/selector/Token$Type")) (by decide)) (D340 (Or.inr (wd hw 48 rfl)) (ty := (.object "java/lang/String")) (by decide)) (D340 (Or.inr (wd hw 50 rfl)) (ty := (.object "java/lang/Object")) (by decide)) (D340 (Or.inr (wd hw 52 rfl)) (ty := .int) (by decide))) w346 (wd hw 38 rfl) (wd hw 29 rfl) hEL (by decide) (by decide) sfNil) pd10 rfl (st := [(.ref x336)]) rfl rfl (Nat.le_of_eq rfl) (dc.g 83 rfl) (by decide) (by decide) ?_
  intro vm349 T350 h351 v352 w353 C354 Q355
  obtain ⟨rfl, K4, X4, T4, U4⟩ := Q355
  show Go κ _ T350 139 #[.val (.int p0), .val (.int p1), .val (.int p2), .val (.int p3), .val (.int p4), .val (.int (Int32.ofNat k1)), .val (.int (Int32.ofNat k2)), .val (.int (Int32.ofNat n1)), .val (.int (Int32.ofNat n2)), .val (.int c0), .val (.int c1), .val (.int r0), .val (.int r1), .val (.ref y1), .val (.ref y2), .unset, .unset, .unset, .unset] [(.ref x336)]
  have hne1 : y1 ≠ x336 := Exa.ne F1.exa X339 (by decide)
  have hne2 : y2 ≠ x336 := Exa.ne F2.exa X339 (by decide)
  have F1 := F1.keepObj K4 X339 (by decide) (wd hw 28 rfl)
  have F2 := F2.keepObj K4 X339 (by decide) (wd hw 28 rfl)
  refine blk (pc' := 145) (Ls' := #[.val (.int p0), .val (.int p1), .val (.int p2), .val (.int p3), .val (.int p4), .val (.int (Int32.ofNat k1)), .val (.int (Int32.ofNat k2)), .val (.int (Int32.ofNat n1)), .val (.int (Int32.ofNat n2)), .val (.int c0), .val (.int c1), .val (.int r0), .val (.int r1), .val (.ref y1), .val (.ref y2), .val (.ref x336), .unset, .unset, .unset]) (st' := [(.int (Int32.ofNat k2)), (.ref x336)]) [oAstore w353.ok (dc.g 84 rfl), oAload w353.ok (dc.g 85 rfl), oIload w353.ok (dc.g 86 rfl)] rfl ?_
  refine w353.callS (wd hw 30 rfl) (wd hw 31 rfl) (wd hw 3 rfl) (wd hw 32 rfl) (by decide) (argsL := [(.int (Int32.ofNat k2))]) (Wd := 1) (Ctr.pays (len := 3) (Wd := 1) (c_typ l Z a0 hw hEL hJS ty hTY (w353.old ozs) hk2) w353 (wd hw 32 rfl) (wd hw 3 rfl) hEL (by decide) (by decide) sfNil) pd9 rfl (st := [(.ref x336)]) rfl rfl (Nat.le_of_eq rfl) (dc.g 87 rfl) (by decide) (by decide) ?_
  intro vm356 T357 h358 v359 w360 C361 Q362
  obtain ⟨e5, rfl⟩ := Q362
  subst e5
  show Go κ _ T357 148 #[.val (.int p0), .val (.int p1), .val (.int p2), .val (.int p3), .val (.int p4), .val (.int (Int32.ofNat k1)), .val (.int (Int32.ofNat k2)), .val (.int (Int32.ofNat n1)), .val (.int (Int32.ofNat n2)), .val (.int c0), .val (.int c1), .val (.int r0), .val (.int r1), .val (.ref y1), .val (.ref y2), .val (.ref x336), .unset, .unset, .unset] [(.ref (ty k2)), (.ref x336)]
  refine blk (pc' := 150) (Ls' := #[.val (.int p0), .val (.int p1), .val (.int p2), .val (.int p3), .val (.int p4), .val (.int (Int32.ofNat k1)), .val (.int (Int32.ofNat k2)), .val (.int (Int32.ofNat n1)), .val (.int (Int32.ofNat n2)), .val (.int c0), .val (.int c1), .val (.int r0), .val (.int r1), .val (.ref y1), .val (.ref y2), .val (.ref x336), .unset, .unset, .unset]) (st' := [(.ref y2), (.ref (ty k2)), (.ref x336)]) [oAload w360.ok (dc.g 88 rfl)] rfl ?_
  refine w360.callV (wd hw 55 rfl) (wd hw 56 rfl) (notFace (wd hw 58 rfl)) (wd hw 58 rfl) (wd hw 57 rfl) (by decide) (a := x336) X4 (argsL := [(.ref (ty k2)), (.ref y2)]) (Wd := 0) (Ctr.pays (len := 3) (Wd := 0) (c_is l Z a0 hw hEL hJS ty hTY (w360.old ozs) T4 U4 F1 F2 (own_isL2 L1) (own_isL2 L2)) w360 (wd hw 59 rfl) (wd hw 29 rfl) hEL (by decide) (by decide) sfNil) pd11 rfl (st := []) rfl rfl (Nat.le_of_eq rfl) (dc.g 89 rfl) (by decide) (by decide) ?_
  intro vm363 T364 h365 v366 w367 C368 Q369
  obtain ⟨e6, rfl⟩ := Q369
  subst e6
  show Go κ _ T364 153 #[.val (.int p0), .val (.int p1), .val (.int p2), .val (.int p3), .val (.int p4), .val (.int (Int32.ofNat k1)), .val (.int (Int32.ofNat k2)), .val (.int (Int32.ofNat n1)), .val (.int (Int32.ofNat n2)), .val (.int c0), .val (.int c1), .val (.int r0), .val (.int r1), .val (.ref y1), .val (.ref y2), .val (.ref x336), .unset, .unset, .unset] [(.int (if ty k1 = ty k2 ∧ [c0, c1].take n1 = [r0, r1].take n2 then (1 : Int32) else 0))]
  have eg : (if ty k1 = ty k2 ∧ [c0, c1].take n1 = [r0, r1].take n2 then (1 : Int32) else 0) = (if k1 = k2 ∧ [c0, c1].take n1 = [r0, r1].take n2 then (1 : Int32) else 0) := by
    have q : (ty k1 = ty k2) ↔ (k1 = k2) := ⟨fun q => hTY.2.2.2.2.2 _ _ hk1 hk2 q, fun q => by rw [q]⟩
    simp only [q]
  rw [eg]
  show Go κ _ T364 153 #[.val (.int p0), .val (.int p1), .val (.int p2), .val (.int p3), .val (.int p4), .val (.int (Int32.ofNat k1)), .val (.int (Int32.ofNat k2)), .val (.int (Int32.ofNat n1)), .val (.int (Int32.ofNat n2)), .val (.int c0), .val (.int c1), .val (.int r0), .val (.int r1), .val (.ref y1), .val (.ref y2), .val (.ref x336), .unset, .unset, .unset] [(.int (if k1 = k2 ∧ [c0, c1].take n1 = [r0, r1].take n2 then (1 : Int32) else 0))]
  generalize hgot : (if k1 = k2 ∧ [c0, c1].take n1 = [r0, r1].take n2 then (1 : Int32) else 0) = got
  show Go κ _ T364 153 #[.val (.int p0), .val (.int p1), .val (.int p2), .val (.int p3), .val (.int p4), .val (.int (Int32.ofNat k1)), .val (.int (Int32.ofNat k2)), .val (.int (Int32.ofNat n1)), .val (.int (Int32.ofNat n2)), .val (.int c0), .val (.int c1), .val (.int r0), .val (.int r1), .val (.ref y1), .val (.ref y2), .val (.ref x336), .unset, .unset, .unset] [(.int got)]
  have i5 : ∀ {a b : Nat}, a < 5 → b < 5 → (Int32.ofNat a = Int32.ofNat b ↔ a = b) := fun h1 h2 => ofNat_inj (by omega) (by omega)
  have l3 : ∀ {a b : Nat}, a < 5 → b < 5 → (Int32.ofNat a < Int32.ofNat b ↔ a < b) := fun h1 h2 => ofNat_lt (by omega) (by omega)
  refine blk (pc' := 155) (Ls' := #[.val (.int p0), .val (.int p1), .val (.int p2), .val (.int p3), .val (.int p4), .val (.int (Int32.ofNat k1)), .val (.int (Int32.ofNat k2)), .val (.int (Int32.ofNat n1)), .val (.int (Int32.ofNat n2)), .val (.int c0), .val (.int c1), .val (.int r0), .val (.int r1), .val (.ref y1), .val (.ref y2), .val (.ref x336), .val (.int got), .unset, .unset]) (st' := []) [oIstore w367.ok (dc.g 90 rfl)] rfl ?_
  suffices k193 : ∀ r17 : Int32, r17 = (if [c0, c1].take n1 = [r0, r1].take n2 then 1 else 0) → Go κ (GQ κ Z consts_1 room_1 (fun v h' S => v = some (.int 1))) T364 193 #[.val (.int p0), .val (.int p1), .val (.int p2), .val (.int p3), .val (.int p4), .val (.int (Int32.ofNat k1)), .val (.int (Int32.ofNat k2)), .val (.int (Int32.ofNat n1)), .val (.int (Int32.ofNat n2)), .val (.int c0), .val (.int c1), .val (.int r0), .val (.int r1), .val (.ref y1), .val (.ref y2), .val (.ref x336), .val (.int got), .unset, .unset] [(.int r17)] by
    refine blk (pc' := 159) (Ls' := #[.val (.int p0), .val (.int p1), .val (.int p2), .val (.int p3), .val (.int p4), .val (.int (Int32.ofNat k1)), .val (.int (Int32.ofNat k2)), .val (.int (Int32.ofNat n1)), .val (.int (Int32.ofNat n2)), .val (.int c0), .val (.int c1), .val (.int r0), .val (.int r1), .val (.ref y1), .val (.ref y2), .val (.ref x336), .val (.int got), .unset, .unset]) (st' := [(.int (Int32.ofNat n2)), (.int (Int32.ofNat n1))]) [oIload w367.ok (dc.g 91 rfl), oIload w367.ok (dc.g 92 rfl)] rfl ?_
    refine cNe (pc' := 192) w367.ok (dc.g 93 rfl) (by decide) (by decide) (fun hc370 => ?_) (fun hc370 => ?_)
    · show Go κ _ T364 192 #[.val (.int p0), .val (.int p1), .val (.int p2), .val (.int p3), .val (.int p4), .val (.int (Int32.ofNat k1)), .val (.int (Int32.ofNat k2)), .val (.int (Int32.ofNat n1)), .val (.int (Int32.ofNat n2)), .val (.int c0), .val (.int c1), .val (.int r0), .val (.int r1), .val (.ref y1), .val (.ref y2), .val (.ref x336), .val (.int got), .unset, .unset] []
      refine blk (pc' := 193) (Ls' := #[.val (.int p0), .val (.int p1), .val (.int p2), .val (.int p3), .val (.int p4), .val (.int (Int32.ofNat k1)), .val (.int (Int32.ofNat k2)), .val (.int (Int32.ofNat n1)), .val (.int (Int32.ofNat n2)), .val (.int c0), .val (.int c1), .val (.int r0), .val (.int r1), .val (.ref y1), .val (.ref y2), .val (.ref x336), .val (.int got), .unset, .unset]) (st' := [(.int (0 : Int32))]) [oIconst w367.ok (dc.g 108 rfl)] rfl ?_
      exact k193 _ (by rw [if_neg (fun q => hc370 (by rw [((own_text hn1 hn2).mp q).1]))])
    · show Go κ _ T364 162 #[.val (.int p0), .val (.int p1), .val (.int p2), .val (.int p3), .val (.int p4), .val (.int (Int32.ofNat k1)), .val (.int (Int32.ofNat k2)), .val (.int (Int32.ofNat n1)), .val (.int (Int32.ofNat n2)), .val (.int c0), .val (.int c1), .val (.int r0), .val (.int r1), .val (.ref y1), .val (.ref y2), .val (.ref x336), .val (.int got), .unset, .unset] []
      have g1 : n1 = n2 := (i5 (by omega) (by omega)).mp hc370
      refine blk (pc' := 165) (Ls' := #[.val (.int p0), .val (.int p1), .val (.int p2), .val (.int p3), .val (.int p4), .val (.int (Int32.ofNat k1)), .val (.int (Int32.ofNat k2)), .val (.int (Int32.ofNat n1)), .val (.int (Int32.ofNat n2)), .val (.int c0), .val (.int c1), .val (.int r0), .val (.int r1), .val (.ref y1), .val (.ref y2), .val (.ref x336), .val (.int got), .unset, .unset]) (st' := [(.int (1 : Int32)), (.int (Int32.ofNat n1))]) [oIload w367.ok (dc.g 94 rfl), oIconst w367.ok (dc.g 95 rfl)] rfl ?_
      refine cLt (pc' := 175) w367.ok (dc.g 96 rfl) (by decide) (by decide) (fun hc371 => ?_) (fun hc371 => ?_)
      · show Go κ _ T364 175 #[.val (.int p0), .val (.int p1), .val (.int p2), .val (.int p3), .val (.int p4), .val (.int (Int32.ofNat k1)), .val (.int (Int32.ofNat k2)), .val (.int (Int32.ofNat n1)), .val (.int (Int32.ofNat n2)), .val (.int c0), .val (.int c1), .val (.int r0), .val (.int r1), .val (.ref y1), .val (.ref y2), .val (.ref x336), .val (.int got), .unset, .unset] []
        refine blk (pc' := 178) (Ls' := #[.val (.int p0), .val (.int p1), .val (.int p2), .val (.int p3), .val (.int p4), .val (.int (Int32.ofNat k1)), .val (.int (Int32.ofNat k2)), .val (.int (Int32.ofNat n1)), .val (.int (Int32.ofNat n2)), .val (.int c0), .val (.int c1), .val (.int r0), .val (.int r1), .val (.ref y1), .val (.ref y2), .val (.ref x336), .val (.int got), .unset, .unset]) (st' := [(.int (2 : Int32)), (.int (Int32.ofNat n1))]) [oIload w367.ok (dc.g 100 rfl), oIconst w367.ok (dc.g 101 rfl)] rfl ?_
        refine cLt (pc' := 188) w367.ok (dc.g 102 rfl) (by decide) (by decide) (fun hc372 => ?_) (fun hc372 => ?_)
        · show Go κ _ T364 188 #[.val (.int p0), .val (.int p1), .val (.int p2), .val (.int p3), .val (.int p4), .val (.int (Int32.ofNat k1)), .val (.int (Int32.ofNat k2)), .val (.int (Int32.ofNat n1)), .val (.int (Int32.ofNat n2)), .val (.int c0), .val (.int c1), .val (.int r0), .val (.int r1), .val (.ref y1), .val (.ref y2), .val (.ref x336), .val (.int got), .unset, .unset] []
          refine blk (pc' := 193) (Ls' := #[.val (.int p0), .val (.int p1), .val (.int p2), .val (.int p3), .val (.int p4), .val (.int (Int32.ofNat k1)), .val (.int (Int32.ofNat k2)), .val (.int (Int32.ofNat n1)), .val (.int (Int32.ofNat n2)), .val (.int c0), .val (.int c1), .val (.int r0), .val (.int r1), .val (.ref y1), .val (.ref y2), .val (.ref x336), .val (.int got), .unset, .unset]) (st' := [(.int (1 : Int32))]) [oIconst w367.ok (dc.g 106 rfl), oGoto w367.ok 193 (dc.g 107 rfl)] rfl ?_
          exact k193 _ (by rw [if_pos ((own_text hn1 hn2).mpr ⟨g1, (Or.inl ((l3 (by omega) (by omega)).mp hc371)), Or.inl ((l3 (by omega) (by omega)).mp hc372)⟩)])
        · show Go κ _ T364 181 #[.val (.int p0), .val (.int p1), .val (.int p2), .val (.int p3), .val (.int p4), .val (.int (Int32.ofNat k1)), .val (.int (Int32.ofNat k2)), .val (.int (Int32.ofNat n1)), .val (.int (Int32.ofNat n2)), .val (.int c0), .val (.int c1), .val (.int r0), .val (.int r1), .val (.ref y1), .val (.ref y2), .val (.ref x336), .val (.int got), .unset, .unset] []
          refine blk (pc' := 185) (Ls' := #[.val (.int p0), .val (.int p1), .val (.int p2), .val (.int p3), .val (.int p4), .val (.int (Int32.ofNat k1)), .val (.int (Int32.ofNat k2)), .val (.int (Int32.ofNat n1)), .val (.int (Int32.ofNat n2)), .val (.int c0), .val (.int c1), .val (.int r0), .val (.int r1), .val (.ref y1), .val (.ref y2), .val (.ref x336), .val (.int got), .unset, .unset]) (st' := [(.int r1), (.int c1)]) [oIload w367.ok (dc.g 103 rfl), oIload w367.ok (dc.g 104 rfl)] rfl ?_
          refine cNe (pc' := 192) w367.ok (dc.g 105 rfl) (by decide) (by decide) (fun hc373 => ?_) (fun hc373 => ?_)
          · show Go κ _ T364 192 #[.val (.int p0), .val (.int p1), .val (.int p2), .val (.int p3), .val (.int p4), .val (.int (Int32.ofNat k1)), .val (.int (Int32.ofNat k2)), .val (.int (Int32.ofNat n1)), .val (.int (Int32.ofNat n2)), .val (.int c0), .val (.int c1), .val (.int r0), .val (.int r1), .val (.ref y1), .val (.ref y2), .val (.ref x336), .val (.int got), .unset, .unset] []
            refine blk (pc' := 193) (Ls' := #[.val (.int p0), .val (.int p1), .val (.int p2), .val (.int p3), .val (.int p4), .val (.int (Int32.ofNat k1)), .val (.int (Int32.ofNat k2)), .val (.int (Int32.ofNat n1)), .val (.int (Int32.ofNat n2)), .val (.int c0), .val (.int c1), .val (.int r0), .val (.int r1), .val (.ref y1), .val (.ref y2), .val (.ref x336), .val (.int got), .unset, .unset]) (st' := [(.int (0 : Int32))]) [oIconst w367.ok (dc.g 108 rfl)] rfl ?_
            exact k193 _ (by rw [if_neg (fun q => ((own_text hn1 hn2).mp q).2.2.elim (fun t => hc372 ((l3 (by omega) (by first | omega | decide)).mpr t)) (fun t => hc373 t))])
          · show Go κ _ T364 188 #[.val (.int p0), .val (.int p1), .val (.int p2), .val (.int p3), .val (.int p4), .val (.int (Int32.ofNat k1)), .val (.int (Int32.ofNat k2)), .val (.int (Int32.ofNat n1)), .val (.int (Int32.ofNat n2)), .val (.int c0), .val (.int c1), .val (.int r0), .val (.int r1), .val (.ref y1), .val (.ref y2), .val (.ref x336), .val (.int got), .unset, .unset] []
            refine blk (pc' := 193) (Ls' := #[.val (.int p0), .val (.int p1), .val (.int p2), .val (.int p3), .val (.int p4), .val (.int (Int32.ofNat k1)), .val (.int (Int32.ofNat k2)), .val (.int (Int32.ofNat n1)), .val (.int (Int32.ofNat n2)), .val (.int c0), .val (.int c1), .val (.int r0), .val (.int r1), .val (.ref y1), .val (.ref y2), .val (.ref x336), .val (.int got), .unset, .unset]) (st' := [(.int (1 : Int32))]) [oIconst w367.ok (dc.g 106 rfl), oGoto w367.ok 193 (dc.g 107 rfl)] rfl ?_
            exact k193 _ (by rw [if_pos ((own_text hn1 hn2).mpr ⟨g1, (Or.inl ((l3 (by omega) (by omega)).mp hc371)), Or.inr hc373⟩)])
      · show Go κ _ T364 168 #[.val (.int p0), .val (.int p1), .val (.int p2), .val (.int p3), .val (.int p4), .val (.int (Int32.ofNat k1)), .val (.int (Int32.ofNat k2)), .val (.int (Int32.ofNat n1)), .val (.int (Int32.ofNat n2)), .val (.int c0), .val (.int c1), .val (.int r0), .val (.int r1), .val (.ref y1), .val (.ref y2), .val (.ref x336), .val (.int got), .unset, .unset] []
        refine blk (pc' := 172) (Ls' := #[.val (.int p0), .val (.int p1), .val (.int p2), .val (.int p3), .val (.int p4), .val (.int (Int32.ofNat k1)), .val (.int (Int32.ofNat k2)), .val (.int (Int32.ofNat n1)), .val (.int (Int32.ofNat n2)), .val (.int c0), .val (.int c1), .val (.int r0), .val (.int r1), .val (.ref y1), .val (.ref y2), .val (.ref x336), .val (.int got), .unset, .unset]) (st' := [(.int r0), (.int c0)]) [oIload w367.ok (dc.g 97 rfl), oIload w367.ok (dc.g 98 rfl)] rfl ?_
        refine cNe (pc' := 192) w367.ok (dc.g 99 rfl) (by decide) (by decide) (fun hc374 => ?_) (fun hc374 => ?_)
        · show Go κ _ T364 192 #[.val (.int p0), .val (.int p1), .val (.int p2), .val (.int p3), .val (.int p4), .val (.int (Int32.ofNat k1)), .val (.int (Int32.ofNat k2)), .val (.int (Int32.ofNat n1)), .val (.int (Int32.ofNat n2)), .val (.int c0), .val (.int c1), .val (.int r0), .val (.int r1), .val (.ref y1), .val (.ref y2), .val (.ref x336), .val (.int got), .unset, .unset] []
          refine blk (pc' := 193) (Ls' := #[.val (.int p0), .val (.int p1), .val (.int p2), .val (.int p3), .val (.int p4), .val (.int (Int32.ofNat k1)), .val (.int (Int32.ofNat k2)), .val (.int (Int32.ofNat n1)), .val (.int (Int32.ofNat n2)), .val (.int c0), .val (.int c1), .val (.int r0), .val (.int r1), .val (.ref y1), .val (.ref y2), .val (.ref x336), .val (.int got), .unset, .unset]) (st' := [(.int (0 : Int32))]) [oIconst w367.ok (dc.g 108 rfl)] rfl ?_
          exact k193 _ (by rw [if_neg (fun q => ((own_text hn1 hn2).mp q).2.1.elim (fun t => hc371 ((l3 (by omega) (by first | omega | decide)).mpr t)) (fun t => hc374 t))])
        · show Go κ _ T364 175 #[.val (.int p0), .val (.int p1), .val (.int p2), .val (.int p3), .val (.int p4), .val (.int (Int32.ofNat k1)), .val (.int (Int32.ofNat k2)), .val (.int (Int32.ofNat n1)), .val (.int (Int32.ofNat n2)), .val (.int c0), .val (.int c1), .val (.int r0), .val (.int r1), .val (.ref y1), .val (.ref y2), .val (.ref x336), .val (.int got), .unset, .unset] []
          refine blk (pc' := 178) (Ls' := #[.val (.int p0), .val (.int p1), .val (.int p2), .val (.int p3), .val (.int p4), .val (.int (Int32.ofNat k1)), .val (.int (Int32.ofNat k2)), .val (.int (Int32.ofNat n1)), .val (.int (Int32.ofNat n2)), .val (.int c0), .val (.int c1), .val (.int r0), .val (.int r1), .val (.ref y1), .val (.ref y2), .val (.ref x336), .val (.int got), .unset, .unset]) (st' := [(.int (2 : Int32)), (.int (Int32.ofNat n1))]) [oIload w367.ok (dc.g 100 rfl), oIconst w367.ok (dc.g 101 rfl)] rfl ?_
          refine cLt (pc' := 188) w367.ok (dc.g 102 rfl) (by decide) (by decide) (fun hc375 => ?_) (fun hc375 => ?_)
          · show Go κ _ T364 188 #[.val (.int p0), .val (.int p1), .val (.int p2), .val (.int p3), .val (.int p4), .val (.int (Int32.ofNat k1)), .val (.int (Int32.ofNat k2)), .val (.int (Int32.ofNat n1)), .val (.int (Int32.ofNat n2)), .val (.int c0), .val (.int c1), .val (.int r0), .val (.int r1), .val (.ref y1), .val (.ref y2), .val (.ref x336), .val (.int got), .unset, .unset] []
            refine blk (pc' := 193) (Ls' := #[.val (.int p0), .val (.int p1), .val (.int p2), .val (.int p3), .val (.int p4), .val (.int (Int32.ofNat k1)), .val (.int (Int32.ofNat k2)), .val (.int (Int32.ofNat n1)), .val (.int (Int32.ofNat n2)), .val (.int c0), .val (.int c1), .val (.int r0), .val (.int r1), .val (.ref y1), .val (.ref y2), .val (.ref x336), .val (.int got), .unset, .unset]) (st' := [(.int (1 : Int32))]) [oIconst w367.ok (dc.g 106 rfl), oGoto w367.ok 193 (dc.g 107 rfl)] rfl ?_
            exact k193 _ (by rw [if_pos ((own_text hn1 hn2).mpr ⟨g1, (Or.inr hc374), Or.inl ((l3 (by omega) (by omega)).mp hc375)⟩)])
          · show Go κ _ T364 181 #[.val (.int p0), .val (.int p1), .val (.int p2), .val (.int p3), .val (.int p4), .val (.int (Int32.ofNat k1)), .val (.int (Int32.ofNat k2)), .val (.int (Int32.ofNat n1)), .val (.int (Int32.ofNat n2)), .val (.int c0), .val (.int c1), .val (.int r0), .val (.int r1), .val (.ref y1), .val (.ref y2), .val (.ref x336), .val (.int got), .unset, .unset] []
            refine blk (pc' := 185) (Ls' := #[.val (.int p0), .val (.int p1), .val (.int p2), .val (.int p3), .val (.int p4), .val (.int (Int32.ofNat k1)), .val (.int (Int32.ofNat k2)), .val (.int (Int32.ofNat n1)), .val (.int (Int32.ofNat n2)), .val (.int c0), .val (.int c1), .val (.int r0), .val (.int r1), .val (.ref y1), .val (.ref y2), .val (.ref x336), .val (.int got), .unset, .unset]) (st' := [(.int r1), (.int c1)]) [oIload w367.ok (dc.g 103 rfl), oIload w367.ok (dc.g 104 rfl)] rfl ?_
            refine cNe (pc' := 192) w367.ok (dc.g 105 rfl) (by decide) (by decide) (fun hc376 => ?_) (fun hc376 => ?_)
            · show Go κ _ T364 192 #[.val (.int p0), .val (.int p1), .val (.int p2), .val (.int p3), .val (.int p4), .val (.int (Int32.ofNat k1)), .val (.int (Int32.ofNat k2)), .val (.int (Int32.ofNat n1)), .val (.int (Int32.ofNat n2)), .val (.int c0), .val (.int c1), .val (.int r0), .val (.int r1), .val (.ref y1), .val (.ref y2), .val (.ref x336), .val (.int got), .unset, .unset] []
              refine blk (pc' := 193) (Ls' := #[.val (.int p0), .val (.int p1), .val (.int p2), .val (.int p3), .val (.int p4), .val (.int (Int32.ofNat k1)), .val (.int (Int32.ofNat k2)), .val (.int (Int32.ofNat n1)), .val (.int (Int32.ofNat n2)), .val (.int c0), .val (.int c1), .val (.int r0), .val (.int r1), .val (.ref y1), .val (.ref y2), .val (.ref x336), .val (.int got), .unset, .unset]) (st' := [(.int (0 : Int32))]) [oIconst w367.ok (dc.g 108 rfl)] rfl ?_
              exact k193 _ (by rw [if_neg (fun q => ((own_text hn1 hn2).mp q).2.2.elim (fun t => hc375 ((l3 (by omega) (by first | omega | decide)).mpr t)) (fun t => hc376 t))])
            · show Go κ _ T364 188 #[.val (.int p0), .val (.int p1), .val (.int p2), .val (.int p3), .val (.int p4), .val (.int (Int32.ofNat k1)), .val (.int (Int32.ofNat k2)), .val (.int (Int32.ofNat n1)), .val (.int (Int32.ofNat n2)), .val (.int c0), .val (.int c1), .val (.int r0), .val (.int r1), .val (.ref y1), .val (.ref y2), .val (.ref x336), .val (.int got), .unset, .unset] []
              refine blk (pc' := 193) (Ls' := #[.val (.int p0), .val (.int p1), .val (.int p2), .val (.int p3), .val (.int p4), .val (.int (Int32.ofNat k1)), .val (.int (Int32.ofNat k2)), .val (.int (Int32.ofNat n1)), .val (.int (Int32.ofNat n2)), .val (.int c0), .val (.int c1), .val (.int r0), .val (.int r1), .val (.ref y1), .val (.ref y2), .val (.ref x336), .val (.int got), .unset, .unset]) (st' := [(.int (1 : Int32))]) [oIconst w367.ok (dc.g 106 rfl), oGoto w367.ok 193 (dc.g 107 rfl)] rfl ?_
              exact k193 _ (by rw [if_pos ((own_text hn1 hn2).mpr ⟨g1, (Or.inr hc374), Or.inr hc376⟩)])
  intro r17 hr17
  show Go κ _ T364 193 #[.val (.int p0), .val (.int p1), .val (.int p2), .val (.int p3), .val (.int p4), .val (.int (Int32.ofNat k1)), .val (.int (Int32.ofNat k2)), .val (.int (Int32.ofNat n1)), .val (.int (Int32.ofNat n2)), .val (.int c0), .val (.int c1), .val (.int r0), .val (.int r1), .val (.ref y1), .val (.ref y2), .val (.ref x336), .val (.int got), .unset, .unset] [(.int r17)]
  refine blk (pc' := 195) (Ls' := #[.val (.int p0), .val (.int p1), .val (.int p2), .val (.int p3), .val (.int p4), .val (.int (Int32.ofNat k1)), .val (.int (Int32.ofNat k2)), .val (.int (Int32.ofNat n1)), .val (.int (Int32.ofNat n2)), .val (.int c0), .val (.int c1), .val (.int r0), .val (.int r1), .val (.ref y1), .val (.ref y2), .val (.ref x336), .val (.int got), .val (.int r17), .unset]) (st' := []) [oIstore w367.ok (dc.g 109 rfl)] rfl ?_
  suffices k212 : ∀ r18 : Int32, r18 = got → Go κ (GQ κ Z consts_1 room_1 (fun v h' S => v = some (.int 1))) T364 212 #[.val (.int p0), .val (.int p1), .val (.int p2), .val (.int p3), .val (.int p4), .val (.int (Int32.ofNat k1)), .val (.int (Int32.ofNat k2)), .val (.int (Int32.ofNat n1)), .val (.int (Int32.ofNat n2)), .val (.int c0), .val (.int c1), .val (.int r0), .val (.int r1), .val (.ref y1), .val (.ref y2), .val (.ref x336), .val (.int got), .val (.int r17), .unset] [(.int r18)] by
    refine blk (pc' := 199) (Ls' := #[.val (.int p0), .val (.int p1), .val (.int p2), .val (.int p3), .val (.int p4), .val (.int (Int32.ofNat k1)), .val (.int (Int32.ofNat k2)), .val (.int (Int32.ofNat n1)), .val (.int (Int32.ofNat n2)), .val (.int c0), .val (.int c1), .val (.int r0), .val (.int r1), .val (.ref y1), .val (.ref y2), .val (.ref x336), .val (.int got), .val (.int r17), .unset]) (st' := [(.int (Int32.ofNat k2)), (.int (Int32.ofNat k1))]) [oIload w367.ok (dc.g 110 rfl), oIload w367.ok (dc.g 111 rfl)] rfl ?_
    refine cNe (pc' := 211) w367.ok (dc.g 112 rfl) (by decide) (by decide) (fun hc377 => ?_) (fun hc377 => ?_)
    · show Go κ _ T364 211 #[.val (.int p0), .val (.int p1), .val (.int p2), .val (.int p3), .val (.int p4), .val (.int (Int32.ofNat k1)), .val (.int (Int32.ofNat k2)), .val (.int (Int32.ofNat n1)), .val (.int (Int32.ofNat n2)), .val (.int c0), .val (.int c1), .val (.int r0), .val (.int r1), .val (.ref y1), .val (.ref y2), .val (.ref x336), .val (.int got), .val (.int r17), .unset] []
      refine blk (pc' := 212) (Ls' := #[.val (.int p0), .val (.int p1), .val (.int p2), .val (.int p3), .val (.int p4), .val (.int (Int32.ofNat k1)), .val (.int (Int32.ofNat k2)), .val (.int (Int32.ofNat n1)), .val (.int (Int32.ofNat n2)), .val (.int c0), .val (.int c1), .val (.int r0), .val (.int r1), .val (.ref y1), .val (.ref y2), .val (.ref x336), .val (.int got), .val (.int r17), .unset]) (st' := [(.int (0 : Int32))]) [oIconst w367.ok (dc.g 117 rfl)] rfl ?_
      exact k212 _ (by rw [← hgot, if_neg (fun q => hc377 (by rw [q.1]))])
    · show Go κ _ T364 202 #[.val (.int p0), .val (.int p1), .val (.int p2), .val (.int p3), .val (.int p4), .val (.int (Int32.ofNat k1)), .val (.int (Int32.ofNat k2)), .val (.int (Int32.ofNat n1)), .val (.int (Int32.ofNat n2)), .val (.int c0), .val (.int c1), .val (.int r0), .val (.int r1), .val (.ref y1), .val (.ref y2), .val (.ref x336), .val (.int got), .val (.int r17), .unset] []
      have g2 : k1 = k2 := (i5 hk1 hk2).mp hc377
      refine blk (pc' := 204) (Ls' := #[.val (.int p0), .val (.int p1), .val (.int p2), .val (.int p3), .val (.int p4), .val (.int (Int32.ofNat k1)), .val (.int (Int32.ofNat k2)), .val (.int (Int32.ofNat n1)), .val (.int (Int32.ofNat n2)), .val (.int c0), .val (.int c1), .val (.int r0), .val (.int r1), .val (.ref y1), .val (.ref y2), .val (.ref x336), .val (.int got), .val (.int r17), .unset]) (st' := [(.int r17)]) [oIload w367.ok (dc.g 113 rfl)] rfl ?_
      refine zEq (pc' := 211) w367.ok (dc.g 114 rfl) (by decide) (by decide) (fun hc378 => ?_) (fun hc378 => ?_)
      · show Go κ _ T364 211 #[.val (.int p0), .val (.int p1), .val (.int p2), .val (.int p3), .val (.int p4), .val (.int (Int32.ofNat k1)), .val (.int (Int32.ofNat k2)), .val (.int (Int32.ofNat n1)), .val (.int (Int32.ofNat n2)), .val (.int c0), .val (.int c1), .val (.int r0), .val (.int r1), .val (.ref y1), .val (.ref y2), .val (.ref x336), .val (.int got), .val (.int r17), .unset] []
        refine blk (pc' := 212) (Ls' := #[.val (.int p0), .val (.int p1), .val (.int p2), .val (.int p3), .val (.int p4), .val (.int (Int32.ofNat k1)), .val (.int (Int32.ofNat k2)), .val (.int (Int32.ofNat n1)), .val (.int (Int32.ofNat n2)), .val (.int c0), .val (.int c1), .val (.int r0), .val (.int r1), .val (.ref y1), .val (.ref y2), .val (.ref x336), .val (.int got), .val (.int r17), .unset]) (st' := [(.int (0 : Int32))]) [oIconst w367.ok (dc.g 117 rfl)] rfl ?_
        exact k212 _ (by rw [← hgot, if_neg (fun q => by rw [if_pos q.2] at hr17; rw [hr17] at hc378; exact absurd hc378 (by decide))])
      · show Go κ _ T364 207 #[.val (.int p0), .val (.int p1), .val (.int p2), .val (.int p3), .val (.int p4), .val (.int (Int32.ofNat k1)), .val (.int (Int32.ofNat k2)), .val (.int (Int32.ofNat n1)), .val (.int (Int32.ofNat n2)), .val (.int c0), .val (.int c1), .val (.int r0), .val (.int r1), .val (.ref y1), .val (.ref y2), .val (.ref x336), .val (.int got), .val (.int r17), .unset] []
        refine blk (pc' := 212) (Ls' := #[.val (.int p0), .val (.int p1), .val (.int p2), .val (.int p3), .val (.int p4), .val (.int (Int32.ofNat k1)), .val (.int (Int32.ofNat k2)), .val (.int (Int32.ofNat n1)), .val (.int (Int32.ofNat n2)), .val (.int c0), .val (.int c1), .val (.int r0), .val (.int r1), .val (.ref y1), .val (.ref y2), .val (.ref x336), .val (.int got), .val (.int r17), .unset]) (st' := [(.int (1 : Int32))]) [oIconst w367.ok (dc.g 115 rfl), oGoto w367.ok 212 (dc.g 116 rfl)] rfl ?_
        exact k212 _ (by rw [← hgot, if_pos ⟨g2, Classical.byContradiction fun q => hc378 (by rw [hr17, if_neg q])⟩])
  intro r18 hr18
  show Go κ _ T364 212 #[.val (.int p0), .val (.int p1), .val (.int p2), .val (.int p3), .val (.int p4), .val (.int (Int32.ofNat k1)), .val (.int (Int32.ofNat k2)), .val (.int (Int32.ofNat n1)), .val (.int (Int32.ofNat n2)), .val (.int c0), .val (.int c1), .val (.int r0), .val (.int r1), .val (.ref y1), .val (.ref y2), .val (.ref x336), .val (.int got), .val (.int r17), .unset] [(.int r18)]
  refine blk (pc' := 218) (Ls' := #[.val (.int p0), .val (.int p1), .val (.int p2), .val (.int p3), .val (.int p4), .val (.int (Int32.ofNat k1)), .val (.int (Int32.ofNat k2)), .val (.int (Int32.ofNat n1)), .val (.int (Int32.ofNat n2)), .val (.int c0), .val (.int c1), .val (.int r0), .val (.int r1), .val (.ref y1), .val (.ref y2), .val (.ref x336), .val (.int got), .val (.int r17), .val (.int r18)]) (st' := [(.int r18), (.int got)]) [oIstore w367.ok (dc.g 118 rfl), oIload w367.ok (dc.g 119 rfl), oIload w367.ok (dc.g 120 rfl)] rfl ?_
  refine cNe (pc' := 225) w367.ok (dc.g 121 rfl) (by decide) (by decide) (fun hc379 => absurd hr18.symm hc379) (fun hc379 => ?_)
  show Go κ _ T364 221 #[.val (.int p0), .val (.int p1), .val (.int p2), .val (.int p3), .val (.int p4), .val (.int (Int32.ofNat k1)), .val (.int (Int32.ofNat k2)), .val (.int (Int32.ofNat n1)), .val (.int (Int32.ofNat n2)), .val (.int c0), .val (.int c1), .val (.int r0), .val (.int r1), .val (.ref y1), .val (.ref y2), .val (.ref x336), .val (.int got), .val (.int r17), .val (.int r18)] []
  refine blk (pc' := 226) (Ls' := #[.val (.int p0), .val (.int p1), .val (.int p2), .val (.int p3), .val (.int p4), .val (.int (Int32.ofNat k1)), .val (.int (Int32.ofNat k2)), .val (.int (Int32.ofNat n1)), .val (.int (Int32.ofNat n2)), .val (.int c0), .val (.int c1), .val (.int r0), .val (.int r1), .val (.ref y1), .val (.ref y2), .val (.ref x336), .val (.int got), .val (.int r17), .val (.int r18)]) (st' := [(.int (1 : Int32))]) [oIconst w367.ok (dc.g 122 rfl), oGoto w367.ok 226 (dc.g 123 rfl)] rfl ?_
  exact w367.retI (t := .boolean) rfl (Or.inr (Or.inl rfl)) rfl (dc.g 125 rfl) (by decide) (by decide) (fun S hS => rfl)
set_option maxRecDepth 65536 in
set_option maxHeartbeats 4000000 in
theorem comes_1 {Post : Tables → Env → Array Value → State → Outcome → State → Prop} (hpost : ∀ tb e args s v u, (limb_1_1.after args s (.returned v) u = true ∧ limb_1_2.after args s (.returned v) u = true ∧ True) → ReturnedEndW s (.returned v) u (Jvm.fieldLocs frame_1_writes args s ++ Jvm.arrayLocs frame_1_arrays args s ++ Jvm.staticLocs frame_1_statics s) 24 1152 → Post tb e args s (.returned v) u) :
    ArmFor flags0 classFile x code maxLocals ret World_1 tables_1 room_1 Calls_1 rest_1 Pre_1 Post := by
  intro l hfl _ _ p e ha hc hk s m args below hf hA hF happ hP
  obtain ⟨hcalls, hrest, hpre⟩ := hP
  obtain ⟨-, -, -, hnamed, -, -, -, hat⟩ := (Spec.applies_iff hf).mp happ
  obtain ⟨hg, hn⟩ := and_e (Cond.before_iff.mp (show (Jvm.Cond.and given_1 narrow_1).before args s = true from hpre))
  obtain ⟨hct, q0⟩ := and_e hg
  obtain ⟨g0, q1⟩ := and_e q0
  obtain ⟨g1, q2⟩ := and_e q1
  obtain ⟨g2, q3⟩ := and_e q2
  obtain ⟨g3, q4⟩ := and_e q3
  have g4 := q4
  obtain ⟨w0, w1, w2, w3, w4, rfl⟩ : ∃ w0 w1 w2 w3 w4 : Value, args = #[w0, w1, w2, w3, w4] := by
    have hs : args.size = 5 := by simpa [Cond.value, given_1] using hct
    obtain ⟨L⟩ := args
    match L, hs with
    | [w0, w1, w2, w3, w4], _ => exact ⟨w0, w1, w2, w3, w4, rfl⟩
  obtain ⟨i0, e0⟩ := is_v g0
  obtain rfl : w0 = (.int i0) := Option.some.inj e0
  obtain ⟨i1, e1⟩ := is_v g1
  obtain rfl : w1 = (.int i1) := Option.some.inj e1
  obtain ⟨i2, e2⟩ := is_v g2
  obtain rfl : w2 = (.int i2) := Option.some.inj e2
  obtain ⟨i3, e3⟩ := is_v g3
  obtain rfl : w3 = (.int i3) := Option.some.inj e3
  obtain ⟨i4, e4⟩ := is_v g4
  obtain rfl : w4 = (.int i4) := Option.some.inj e4
  have hw := fun d (hd : d ∈ tables_1) => atoms_spec (ws := Jvm.Cond.code x code maxLocals ret :: tables_1) hat d (List.mem_cons_of_mem _ hd)
  obtain ⟨hsets, hown0⟩ := atoms_of _ (rest_1_c_eq ▸ (show rest_1_c.before _ s = true from hrest))
  have hfit : Fit s := fun {y c} hc i hi => by
    obtain ⟨ha, rfl⟩ := Array.getElem?_eq_some_iff.mp hc
    have q := List.all_eq_true.mp ((Array.all_eq_true_iff_forall_mem.mp hF) _ (Array.getElem_mem ha)) i (List.mem_range.mpr hi)
    simpa [Array.getElem?_eq_getElem hi] using q
  have n5 := not_v (Cond.before_iff.mp (hsets _ (List.mem_of_getElem? (i := 2) rfl)))
  obtain ⟨zc, ez⟩ := is_v (Cond.before_iff.mp (hsets _ (List.mem_of_getElem? (i := 1) rfl)))
  have Scs : Sta s s.heap "java/lang/String" "COMPACT_STRINGS" "Z" (.int zc) := Sta.start ez (Or.inl (hsets _ (List.mem_of_getElem? (i := 0) rfl)))
  have ncs : ¬ (zc = (0 : Int32)) := gotF (Cond.eq_ints ez (Term.int_eval (0))) n5
  obtain ⟨vf, ef, rf⟩ := isR_v (Cond.before_iff.mp (hsets _ (List.mem_of_getElem? (i := 8) rfl)))
  have Sf0 : Sta s s.heap "jdk/internal/util/Preconditions" "SIOOBE_FORMATTER" "Ljava/util/function/BiFunction;" vf := Sta.start ef (Or.inl (hsets _ (List.mem_of_getElem? (i := 7) rfl)))
  have hJS : JS s := ⟨⟨zc, Scs, ncs⟩, vf, Sf0, rf⟩
  have hEL : EW s #[.int i0, .int i1, .int i2, .int i3, .int i4] consts_1 := EW.cons (hw _ (List.mem_of_getElem? (i := 19) rfl)) (by decide) EW.nil
  have hcw : Jvm.Lit.compactW.before #[.int i0, .int i1, .int i2, .int i3, .int i4] s = true := hsets _ (List.mem_of_getElem? (i := 2) rfl)
  have hch : CHv s consts_1 s.vm s.heap := CHv.start hEL (fun p hp => hcalls.1 p hp) hcw (hw _ (List.mem_of_getElem? (i := 20) rfl)) (hw _ (List.mem_of_getElem? (i := 6) rfl))
  obtain ⟨z0, hn1⟩ := and_e hn
  obtain ⟨z1, hn2⟩ := and_e hn1
  obtain ⟨z2, hn3⟩ := and_e hn2
  obtain ⟨z3, hn4⟩ := and_e hn3
  obtain ⟨z4, hn5⟩ := and_e hn4
  obtain ⟨z5, hn6⟩ := and_e hn5
  obtain ⟨z6, hn7⟩ := and_e hn6
  obtain ⟨z7, hn8⟩ := and_e hn7
  obtain ⟨z8, hn9⟩ := and_e hn8
  have z9 := hn9
  obtain ⟨y0, ey0⟩ := exa_v z0
  have F0 := Fld.start (own_fldi ey0 (own_eqi z2))
  obtain ⟨y1, ey1⟩ := exa_v z7
  have F1 := Fld.start (own_fldi ey1 (own_eqi z9))
  obtain ⟨y2, ey2⟩ := exa_v z6
  have F2 := Fld.start (own_fldi ey2 (own_eqi z8))
  obtain ⟨y3, ey3⟩ := exa_v z1
  have F3 := Fld.start (own_fldi ey3 (own_eqi z3))
  obtain ⟨y4, ey4⟩ := exa_v z4
  have F4 := Fld.start (own_fldi ey4 (own_eqi z5))
  have hTY : TY s (fun i => match i with | 0 => y0 | 1 => y1 | 2 => y2 | 3 => y3 | _ => y4) := ⟨Sta.start ey0 (Or.inr ⟨hw _ (List.mem_of_getElem? (i := 34) rfl), hw _ (List.mem_of_getElem? (i := 35) rfl)⟩), Sta.start ey1 (Or.inr ⟨hw _ (List.mem_of_getElem? (i := 34) rfl), hw _ (List.mem_of_getElem? (i := 76) rfl)⟩), Sta.start ey2 (Or.inr ⟨hw _ (List.mem_of_getElem? (i := 34) rfl), hw _ (List.mem_of_getElem? (i := 74) rfl)⟩), Sta.start ey3 (Or.inr ⟨hw _ (List.mem_of_getElem? (i := 34) rfl), hw _ (List.mem_of_getElem? (i := 54) rfl)⟩), Sta.start ey4 (Or.inr ⟨hw _ (List.mem_of_getElem? (i := 34) rfl), hw _ (List.mem_of_getElem? (i := 72) rfl)⟩), by
    intro i j hi hj hq
    obtain rfl | rfl | rfl | rfl | rfl : i = 0 ∨ i = 1 ∨ i = 2 ∨ i = 3 ∨ i = 4 := by omega
    all_goals obtain rfl | rfl | rfl | rfl | rfl : j = 0 ∨ j = 1 ∨ j = 2 ∨ j = 3 ∨ j = 4 := by omega
    all_goals first | rfl | (exfalso; first | exact absurd (own_ne F0 F1 hq) (by decide) | exact absurd (own_ne F0 F2 hq) (by decide) | exact absurd (own_ne F0 F3 hq) (by decide) | exact absurd (own_ne F0 F4 hq) (by decide) | exact absurd (own_ne F1 F0 hq) (by decide) | exact absurd (own_ne F1 F2 hq) (by decide) | exact absurd (own_ne F1 F3 hq) (by decide) | exact absurd (own_ne F1 F4 hq) (by decide) | exact absurd (own_ne F2 F0 hq) (by decide) | exact absurd (own_ne F2 F1 hq) (by decide) | exact absurd (own_ne F2 F3 hq) (by decide) | exact absurd (own_ne F2 F4 hq) (by decide) | exact absurd (own_ne F3 F0 hq) (by decide) | exact absurd (own_ne F3 F1 hq) (by decide) | exact absurd (own_ne F3 F2 hq) (by decide) | exact absurd (own_ne F3 F4 hq) (by decide) | exact absurd (own_ne F4 F0 hq) (by decide) | exact absurd (own_ne F4 F1 hq) (by decide) | exact absurd (own_ne F4 F2 hq) (by decide) | exact absurd (own_ne F4 F3 hq) (by decide))⟩
  obtain ⟨n, o, h1, h2, h3, _, L, rfl, ⟨rfl, N⟩, -, hq⟩ := c_law l s _ hw hEL hJS _ hTY s.heap ⟨Nat.le_refl _, fun _ _ q => q⟩ tables_1 p e ha hc hk s m _ below hf ((Spec.applies_iff_loose hf).mp happ).1 ⟨rfl, State.Warmed39.refl s, rfl, hch, fun _ h => nomatch h⟩ trivial
  refine ⟨n, _, h1, h2, h3, hpost _ _ _ _ _ _ ⟨Cond.after_iff.mpr rfl, Cond.after_iff.mpr (eq_i res_at (Term.int_eval (1)) rfl), trivial⟩ ⟨hq.1, hq.2.1, hq.2.2.1, (hq.2.2.2.sift fun y hy => Or.inr (N y hy)).mono (by decide) (by decide)⟩⟩
theorem main_1_1 : Claimed_1_1 := comes_1 fun _ _ _ _ _ _ h hF => ⟨h.1, hF⟩
theorem main_1_2 : Claimed_1_2 := comes_1 fun _ _ _ _ _ _ h hF => ⟨h.2.1, hF⟩
end Jvm.Pilot.@@N@@
namespace Jvm.Pilot.@@N@@
open Jvm Jvm.ClassFile Sem Op Lib Jvm.Free Jvm.Stand Jvm.Pilot.@@N@@.Jvm.D
/-! MADE BY PROGRAM (witnessworld.py) out of the Statement's table words and the real class files: 21 classes; the members and pool entries that the words name. The judged class is class 1, her method 3. -/
namespace start1
open Jvm.ClassFile
def u (s : String) : CpInfo := .utf8 (stringToUtf16 s)
/-- a pool by its gaps: so many unusable entries, then the entry; so many at the end -/
def gap : Nat → List CpInfo → List CpInfo
  | 0, r => r
  | n + 1, r => .unusable :: gap n r
def poolList (es : List (Nat × CpInfo)) (last : Nat) : List CpInfo := es.foldr (fun e r => gap e.1 (e.2 :: r)) (gap last [])
def pool (es : List (Nat × CpInfo)) (last : Nat) : Array CpInfo := ⟨poolList es last⟩
def fileOf (pool : Array CpInfo) (this : Nat) (attrs : Array Attribute := #[]) (ms : Array MethodInfo := #[]) (fl : Nat := 33) (sup : Nat := 0) (ifs : Array Nat := #[]) (fds : Array FieldInfo := #[]) : ClassFile where
  minorVersion := 0
  majorVersion := 65
  constantPool := pool
  accessFlags := fl
  thisClass := this
  superClass := sup
  interfaces := ifs
  fields := fds
  methods := ms
  attributes := attrs
def plain (name : String) (sup : Option ClassId) : Class where
  name := name
  kind := .ordinary
  loader := none
  accessFlags := 33
  super := sup
  interfaces := #[]
  cf := none
  fields := #[]
  methods := #[]
  instanceTypes := #[]
  staticTypes := #[]
  resolved := #[]
  callSites := []
  init := .initialized
  statics := none
  mirror := none

def pool0 : Array CpInfo := pool [(5, u "<init>"), (0, u "()V"), (1, .class_ 10), (1, u "java/lang/Object")] 113

def k0c0 : Code := { maxStack := 0, maxLocals := 1, code := object_method_1_code, exceptionTable := #[], attributes := #[] }
def k0m0 : Method := { name := "<init>", desc := "()V", sig := { parameters := [], returnType := none }, accessFlags := 1, code := some k0c0 }
/-- java/lang/Object -/
def k0 : Class := { plain "java/lang/Object" none with
  accessFlags := 33
  interfaces := #[]
  cf := some (fileOf pool0 8 #[] #[{ accessFlags := 1, nameIndex := 5, descriptorIndex := 6, attributes := #[] }] 33 0 #[] #[])
  fields := #[]
  methods := #[k0m0]
  instanceTypes := #[]
  staticTypes := #[]
  resolved := Array.replicate 124 none
  statics := none }

def pool1 : Array CpInfo := pool [(2, .class_ 4), (1, u "java/lang/Object"), (0, u "<init>"), (0, u "()V"), (0, .fieldref 8 9), (0, .class_ 10), (0, .nameAndType 11 12), (0, u "com/example/heronbus/heronbus/selector/Token$Type"), (0, u "KEYWORD"), (0, u "Lcom/example/heronbus/heronbus/selector/Token$Type;"), (0, .fieldref 8 14), (0, .nameAndType 15 12), (0, u "IDENTIFIER"), (0, .fieldref 8 17), (0, .nameAndType 18 12), (0, u "LITERAL"), (0, .fieldref 8 20), (0, .nameAndType 21 12), (0, u "OPERATOR"), (0, .fieldref 8 23), (0, .nameAndType 24 12), (0, u "END"), (0, .class_ 26), (0, u "java/lang/String"), (0, .methodref 25 28), (0, .nameAndType 5 29), (0, u "([C)V"), (0, .integer 2147483647), (0, .methodref 32 33), (0, .class_ 34), (0, .nameAndType 35 36), (0, u "com/example/heronbus/heronbus/selector/TokenIsPinLaw"), (0, u "mk"), (0, u "(ICC)Ljava/lang/String;"), (0, .class_ 38), (0, u "com/example/heronbus/heronbus/selector/Token"), (0, .methodref 32 40), (0, .nameAndType 41 42), (0, u "typeOf"), (0, u "(I)Lcom/example/heronbus/heronbus/selector/Token$Type;"), (0, .methodref 37 44), (0, .nameAndType 5 45), (0, u "(Lcom/example/heronbus/heronbus/selector/Token$Type;Ljava/lang/String;Ljava/lang/Object;I)V"), (0, .methodref 37 47), (0, .nameAndType 48 49), (0, u "is"), (0, u "(Lcom/example/heronbus/heronbus/selector/Token$Type;Ljava/lang/String;)Z"), (3, u "law"), (0, u "(IIIII)Z")] 4

def k1m0 : Method := { name := "<init>", desc := "()V", sig := { parameters := [], returnType := none }, accessFlags := 1, code := none }
def k1c1 : Code := { maxStack := 2, maxLocals := 1, code := method_2_code, exceptionTable := #[], attributes := #[] }
def k1m1 : Method := { name := "typeOf", desc := "(I)Lcom/example/heronbus/heronbus/selector/Token$Type;", sig := { parameters := [.int], returnType := some (.object "com/example/heronbus/heronbus/selector/Token$Type") }, accessFlags := 10, code := some k1c1 }
def k1c2 : Code := { maxStack := 3, maxLocals := 4, code := method_3_code, exceptionTable := #[], attributes := #[] }
def k1m2 : Method := { name := "mk", desc := "(ICC)Ljava/lang/String;", sig := { parameters := [.int, .char, .char], returnType := some (.object "java/lang/String") }, accessFlags := 10, code := some k1c2 }
def k1c3 : Code := { maxStack := 6, maxLocals := 19, code := code, exceptionTable := #[], attributes := #[] }
def k1m3 : Method := { name := "law", desc := "(IIIII)Z", sig := { parameters := [.int, .int, .int, .int, .int], returnType := some .boolean }, accessFlags := 9, code := some k1c3 }
/-- com/example/heronbus/heronbus/selector/TokenIsPinLaw -/
def k1 : Class := { plain "com/example/heronbus/heronbus/selector/TokenIsPinLaw" (some 0) with
  accessFlags := 49
  interfaces := #[]
  cf := some (fileOf pool1 32 #[] #[{ accessFlags := 1, nameIndex := 5, descriptorIndex := 6, attributes := #[] }, { accessFlags := 10, nameIndex := 41, descriptorIndex := 42, attributes := #[] }, { accessFlags := 10, nameIndex := 35, descriptorIndex := 36, attributes := #[] }, { accessFlags := 9, nameIndex := 53, descriptorIndex := 54, attributes := #[] }] 49 2 #[] #[])
  fields := #[]
  methods := #[k1m0, k1m1, k1m2, k1m3]
  instanceTypes := #[]
  staticTypes := #[]
  resolved := Array.replicate 59 none
  statics := none }

def pool2 : Array CpInfo := pool [(1, .class_ 2), (0, u "java/io/Serializable"), (0, .class_ 4), (0, u "java/lang/Object")] 2

/-- java/io/Serializable -/
def k2 : Class := { plain "java/io/Serializable" (some 0) with
  accessFlags := 1537
  interfaces := #[]
  cf := some (fileOf pool2 1 #[] #[] 1537 3 #[] #[])
  fields := #[]
  methods := #[]
  instanceTypes := #[]
  staticTypes := #[]
  resolved := Array.replicate 7 none
  statics := none }

def pool3 : Array CpInfo := pool [(1, .class_ 2), (0, u "java/lang/Comparable"), (0, .class_ 4), (0, u "java/lang/Object")] 7

/-- java/lang/Comparable -/
def k3 : Class := { plain "java/lang/Comparable" (some 0) with
  accessFlags := 1537
  interfaces := #[]
  cf := some (fileOf pool3 1 #[] #[] 1537 3 #[] #[])
  fields := #[]
  methods := #[]
  instanceTypes := #[]
  staticTypes := #[]
  resolved := Array.replicate 12 none
  statics := none }

def pool4 : Array CpInfo := pool [(2, .class_ 4), (1, u "java/lang/CharSequence"), (42, .class_ 48), (0, u "java/lang/CharSequence$1CodePointIterator"), (10, .class_ 60), (0, u "java/lang/CharSequence$1CharIterator"), (5, .class_ 67), (0, u "java/lang/Object")] 63

/-- java/lang/CharSequence -/
def k4 : Class := { plain "java/lang/CharSequence" (some 0) with
  accessFlags := 1537
  interfaces := #[]
  cf := some (fileOf pool4 2 #[.nestMembers #[47, 59]] #[] 1537 66 #[] #[])
  fields := #[]
  methods := #[]
  instanceTypes := #[]
  staticTypes := #[]
  resolved := Array.replicate 131 none
  statics := none }

def pool5 : Array CpInfo := pool [(1, .class_ 2), (0, u "java/lang/constant/Constable"), (0, .class_ 4), (0, u "java/lang/Object")] 6

/-- java/lang/constant/Constable -/
def k5 : Class := { plain "java/lang/constant/Constable" (some 0) with
  accessFlags := 1537
  interfaces := #[]
  cf := some (fileOf pool5 1 #[] #[] 1537 3 #[] #[])
  fields := #[]
  methods := #[]
  instanceTypes := #[]
  staticTypes := #[]
  resolved := Array.replicate 11 none
  statics := none }

def pool6 : Array CpInfo := pool [(1, .class_ 2), (0, u "java/lang/constant/ConstantDesc"), (0, .class_ 4), (0, u "java/lang/Object")] 32

/-- java/lang/constant/ConstantDesc -/
def k6 : Class := { plain "java/lang/constant/ConstantDesc" (some 0) with
  accessFlags := 1537
  interfaces := #[]
  cf := some (fileOf pool6 1 #[] #[] 1537 3 #[] #[])
  fields := #[]
  methods := #[]
  instanceTypes := #[]
  staticTypes := #[]
  resolved := Array.replicate 37 none
  statics := none }

def pool7 : Array CpInfo := pool [(1, .methodref 2 3), (0, .class_ 4), (0, .nameAndType 5 6), (0, u "java/lang/Object"), (0, u "<init>"), (0, u "()V"), (0, .string 8), (0, u ""), (0, .fieldref 10 11), (0, .class_ 12), (0, .nameAndType 13 14), (0, u "java/lang/String"), (0, u "value"), (0, u "[B"), (0, .fieldref 10 16), (0, .nameAndType 17 18), (0, u "coder"), (0, u "B"), (2, u "hash"), (0, u "I"), (2, u "hashIsZero"), (0, u "Z"), (0, .methodref 10 28), (0, .nameAndType 5 29), (0, u "([CIILjava/lang/Void;)V"), (8, .fieldref 10 39), (0, .nameAndType 40 26), (0, u "COMPACT_STRINGS"), (1, .class_ 44), (1, u "java/lang/StringUTF16"), (0, u "compress"), (1, .methodref 42 48), (0, .nameAndType 49 50), (0, u "coderFromArrayLen"), (0, u "([BI)B"), (56, .class_ 109), (1, u "java/lang/StringLatin1"), (67, .methodref 42 178), (0, .nameAndType 45 179), (0, u "([CII)[B"), (361, .methodref 107 542), (0, .nameAndType 543 544), (0, u "equals"), (0, u "([B[B)Z"), (28, u "(Ljava/lang/Object;)Z"), (1, .class_ 576), (0, u "java/lang/CharSequence"), (22, u "CASE_INSENSITIVE_ORDER"), (0, u "Ljava/util/Comparator;"), (409, u "([C)V"), (90, u "serialPersistentFields"), (0, u "[Ljava/io/ObjectStreamField;"), (0, .class_ 1104), (0, u "java/lang/String$CaseInsensitiveComparator"), (1, .class_ 1107), (0, u "java/io/Serializable"), (0, .class_ 1109), (0, u "java/lang/Comparable"), (0, .class_ 1111), (0, u "java/lang/constant/Constable"), (0, .class_ 1113), (0, u "java/lang/constant/ConstantDesc"), (2, u "serialVersionUID"), (0, u "J"), (3, u "REPL"), (0, u "C"), (2, u "LATIN1"), (1, u "UTF16")] 323

def k7m0 : Method := { name := "<init>", desc := "()V", sig := { parameters := [], returnType := none }, accessFlags := 1, code := none }
def k7c1 : Code := { maxStack := 5, maxLocals := 2, code := jdk_42_method_3_code, exceptionTable := #[], attributes := #[] }
def k7m1 : Method := { name := "<init>", desc := "([C)V", sig := { parameters := [(.array .char)], returnType := none }, accessFlags := 1, code := some k7c1 }
def k7c2 : Code := { maxStack := 2, maxLocals := 3, code := jdk_42_method_66_code, exceptionTable := #[], attributes := #[] }
def k7m2 : Method := { name := "equals", desc := "(Ljava/lang/Object;)Z", sig := { parameters := [(.object "java/lang/Object")], returnType := some .boolean }, accessFlags := 1, code := some k7c2 }
def k7c3 : Code := { maxStack := 4, maxLocals := 6, code := jdk_42_method_149_code, exceptionTable := #[], attributes := #[] }
def k7m3 : Method := { name := "<init>", desc := "([CIILjava/lang/Void;)V", sig := { parameters := [(.array .char), .int, .int, (.object "java/lang/Void")], returnType := none }, accessFlags := 2, code := some k7c3 }
/-- java/lang/String -/
def k7 : Class := { plain "java/lang/String" (some 0) with
  accessFlags := 49
  interfaces := #[2, 3, 4, 5, 6]
  cf := some (fileOf pool7 10 #[.nestMembers #[1103]] #[{ accessFlags := 1, nameIndex := 5, descriptorIndex := 6, attributes := #[] }, { accessFlags := 1, nameIndex := 5, descriptorIndex := 1010, attributes := #[] }, { accessFlags := 1, nameIndex := 543, descriptorIndex := 573, attributes := #[] }, { accessFlags := 2, nameIndex := 5, descriptorIndex := 29, attributes := #[] }] 49 2 #[1106, 1108, 575, 1110, 1112] #[{ accessFlags := 18, nameIndex := 13, descriptorIndex := 14, attributes := #[] }, { accessFlags := 18, nameIndex := 17, descriptorIndex := 18, attributes := #[] }, { accessFlags := 2, nameIndex := 21, descriptorIndex := 22, attributes := #[] }, { accessFlags := 2, nameIndex := 25, descriptorIndex := 26, attributes := #[] }, { accessFlags := 26, nameIndex := 1116, descriptorIndex := 1117, attributes := #[] }, { accessFlags := 24, nameIndex := 40, descriptorIndex := 26, attributes := #[] }, { accessFlags := 26, nameIndex := 1101, descriptorIndex := 1102, attributes := #[] }, { accessFlags := 26, nameIndex := 1121, descriptorIndex := 1122, attributes := #[] }, { accessFlags := 25, nameIndex := 599, descriptorIndex := 600, attributes := #[] }, { accessFlags := 24, nameIndex := 1125, descriptorIndex := 18, attributes := #[] }, { accessFlags := 24, nameIndex := 1127, descriptorIndex := 18, attributes := #[] }])
  fields := #[{ name := "value", type := (.array .byte), accessFlags := 18, slot := 0, constantValue := 0 }, { name := "coder", type := .byte, accessFlags := 18, slot := 1, constantValue := 0 }, { name := "hash", type := .int, accessFlags := 2, slot := 2, constantValue := 0 }, { name := "hashIsZero", type := .boolean, accessFlags := 2, slot := 3, constantValue := 0 }, { name := "serialVersionUID", type := .long, accessFlags := 26, slot := 0, constantValue := 0 }, { name := "COMPACT_STRINGS", type := .boolean, accessFlags := 24, slot := 1, constantValue := 0 }, { name := "serialPersistentFields", type := (.array (.object "java/io/ObjectStreamField")), accessFlags := 26, slot := 2, constantValue := 0 }, { name := "REPL", type := .char, accessFlags := 26, slot := 3, constantValue := 0 }, { name := "CASE_INSENSITIVE_ORDER", type := (.object "java/util/Comparator"), accessFlags := 25, slot := 4, constantValue := 0 }, { name := "LATIN1", type := .byte, accessFlags := 24, slot := 5, constantValue := 0 }, { name := "UTF16", type := .byte, accessFlags := 24, slot := 6, constantValue := 0 }]
  methods := #[k7m0, k7m1, k7m2, k7m3]
  instanceTypes := #[(.array .byte), .byte, .int, .boolean]
  staticTypes := #[.long, .boolean, (.array (.object "java/io/ObjectStreamField")), .char, (.object "java/util/Comparator"), .byte, .byte]
  resolved := Array.replicate 1451 none
  statics := some 0 }

def pool8 : Array CpInfo := pool [(1, .methodref 2 3), (0, .class_ 4), (0, .nameAndType 5 6), (0, u "java/lang/Object"), (0, u "<init>"), (0, u "()V"), (0, .class_ 8), (0, u "java/lang/Record")] 13

def k8c0 : Code := { maxStack := 1, maxLocals := 1, code := jdk_30_method_1_code, exceptionTable := #[], attributes := #[] }
def k8m0 : Method := { name := "<init>", desc := "()V", sig := { parameters := [], returnType := none }, accessFlags := 4, code := some k8c0 }
/-- java/lang/Record -/
def k8 : Class := { plain "java/lang/Record" (some 0) with
  accessFlags := 1057
  interfaces := #[]
  cf := some (fileOf pool8 7 #[] #[{ accessFlags := 4, nameIndex := 5, descriptorIndex := 6, attributes := #[] }] 1057 2 #[] #[])
  fields := #[]
  methods := #[k8m0]
  instanceTypes := #[]
  staticTypes := #[]
  resolved := Array.replicate 22 none
  statics := none }

def pool9 : Array CpInfo := pool [(1, .methodref 2 3), (0, .class_ 4), (0, .nameAndType 5 6), (0, u "java/lang/Record"), (0, u "<init>"), (0, u "()V"), (0, .fieldref 8 9), (0, .class_ 10), (0, .nameAndType 11 12), (0, u "com/example/heronbus/heronbus/selector/Token"), (0, u "type"), (0, u "Lcom/example/heronbus/heronbus/selector/Token$Type;"), (0, .fieldref 8 14), (0, .nameAndType 15 16), (0, u "text"), (0, u "Ljava/lang/String;"), (0, .fieldref 8 18), (0, .nameAndType 19 20), (0, u "value"), (0, u "Ljava/lang/Object;"), (0, .fieldref 8 22), (0, .nameAndType 23 24), (0, u "offset"), (0, u "I"), (0, .methodref 26 27), (0, .class_ 28), (0, .nameAndType 29 30), (0, u "java/lang/String"), (0, u "equals"), (0, u "(Ljava/lang/Object;)Z"), (1, .class_ 34), (1, u "com/example/heronbus/heronbus/selector/Token$Type"), (3, u "is"), (0, u "(Lcom/example/heronbus/heronbus/selector/Token$Type;Ljava/lang/String;)Z"), (23, u "(Lcom/example/heronbus/heronbus/selector/Token$Type;Ljava/lang/String;Ljava/lang/Object;I)V")] 45

def k9c0 : Code := { maxStack := 2, maxLocals := 5, code := prog_110_method_1_code, exceptionTable := #[], attributes := #[] }
def k9m0 : Method := { name := "<init>", desc := "(Lcom/example/heronbus/heronbus/selector/Token$Type;Ljava/lang/String;Ljava/lang/Object;I)V", sig := { parameters := [(.object "com/example/heronbus/heronbus/selector/Token$Type"), (.object "java/lang/String"), (.object "java/lang/Object"), .int], returnType := none }, accessFlags := 0, code := some k9c0 }
def k9c1 : Code := { maxStack := 2, maxLocals := 3, code := prog_110_method_2_code, exceptionTable := #[], attributes := #[] }
def k9m1 : Method := { name := "is", desc := "(Lcom/example/heronbus/heronbus/selector/Token$Type;Ljava/lang/String;)Z", sig := { parameters := [(.object "com/example/heronbus/heronbus/selector/Token$Type"), (.object "java/lang/String")], returnType := some .boolean }, accessFlags := 0, code := some k9c1 }
/-- com/example/heronbus/heronbus/selector/Token -/
def k9 : Class := { plain "com/example/heronbus/heronbus/selector/Token" (some 8) with
  accessFlags := 48
  interfaces := #[]
  cf := some (fileOf pool9 8 #[.nestMembers #[32]] #[{ accessFlags := 0, nameIndex := 5, descriptorIndex := 63, attributes := #[] }, { accessFlags := 0, nameIndex := 38, descriptorIndex := 39, attributes := #[] }] 48 2 #[] #[{ accessFlags := 18, nameIndex := 11, descriptorIndex := 12, attributes := #[] }, { accessFlags := 18, nameIndex := 15, descriptorIndex := 16, attributes := #[] }, { accessFlags := 18, nameIndex := 19, descriptorIndex := 20, attributes := #[] }, { accessFlags := 18, nameIndex := 23, descriptorIndex := 24, attributes := #[] }])
  fields := #[{ name := "type", type := (.object "com/example/heronbus/heronbus/selector/Token$Type"), accessFlags := 18, slot := 0, constantValue := 0 }, { name := "text", type := (.object "java/lang/String"), accessFlags := 18, slot := 1, constantValue := 0 }, { name := "value", type := (.object "java/lang/Object"), accessFlags := 18, slot := 2, constantValue := 0 }, { name := "offset", type := .int, accessFlags := 18, slot := 3, constantValue := 0 }]
  methods := #[k9m0, k9m1]
  instanceTypes := #[(.object "com/example/heronbus/heronbus/selector/Token$Type"), (.object "java/lang/String"), (.object "java/lang/Object"), .int]
  staticTypes := #[]
  resolved := Array.replicate 109 none
  statics := none }

def pool10 : Array CpInfo := pool [(2, .class_ 4), (1, u "java/lang/Enum"), (0, u "name"), (0, u "Ljava/lang/String;"), (2, u "ordinal"), (0, u "I"), (1, .class_ 14), (1, u "java/lang/Object"), (4, u "hash"), (86, .class_ 108), (1, u "java/lang/Enum$EnumDesc"), (2, .class_ 112), (0, u "java/lang/constant/Constable"), (0, .class_ 114), (0, u "java/lang/Comparable"), (0, .class_ 116), (0, u "java/io/Serializable")] 87

/-- java/lang/Enum -/
def k10 : Class := { plain "java/lang/Enum" (some 0) with
  accessFlags := 1057
  interfaces := #[5, 3, 2]
  cf := some (fileOf pool10 2 #[.nestMembers #[106]] #[] 1057 12 #[111, 113, 115] #[{ accessFlags := 18, nameIndex := 5, descriptorIndex := 6, attributes := #[] }, { accessFlags := 18, nameIndex := 9, descriptorIndex := 10, attributes := #[] }, { accessFlags := 2, nameIndex := 19, descriptorIndex := 10, attributes := #[] }])
  fields := #[{ name := "name", type := (.object "java/lang/String"), accessFlags := 18, slot := 0, constantValue := 0 }, { name := "ordinal", type := .int, accessFlags := 18, slot := 1, constantValue := 0 }, { name := "hash", type := .int, accessFlags := 2, slot := 2, constantValue := 0 }]
  methods := #[]
  instanceTypes := #[(.object "java/lang/String"), .int, .int]
  staticTypes := #[]
  resolved := Array.replicate 204 none
  statics := none }

def pool11 : Array CpInfo := pool [(1, .class_ 2), (0, u "com/example/heronbus/heronbus/selector/Token$Type"), (2, u "KEYWORD"), (0, u "Lcom/example/heronbus/heronbus/selector/Token$Type;"), (2, u "IDENTIFIER"), (2, u "LITERAL"), (2, u "OPERATOR"), (2, u "END"), (2, u "$VALUES"), (0, u "[Lcom/example/heronbus/heronbus/selector/Token$Type;"), (6, .class_ 31), (1, u "java/lang/Enum"), (28, .class_ 61), (0, u "com/example/heronbus/heronbus/selector/Token")] 2

/-- com/example/heronbus/heronbus/selector/Token$Type -/
def k11 : Class := { plain "com/example/heronbus/heronbus/selector/Token$Type" (some 10) with
  accessFlags := 16432
  interfaces := #[]
  cf := some (fileOf pool11 1 #[.nestHost 60] #[] 16432 29 #[] #[{ accessFlags := 16409, nameIndex := 5, descriptorIndex := 6, attributes := #[] }, { accessFlags := 16409, nameIndex := 9, descriptorIndex := 6, attributes := #[] }, { accessFlags := 16409, nameIndex := 12, descriptorIndex := 6, attributes := #[] }, { accessFlags := 16409, nameIndex := 15, descriptorIndex := 6, attributes := #[] }, { accessFlags := 16409, nameIndex := 18, descriptorIndex := 6, attributes := #[] }, { accessFlags := 4122, nameIndex := 21, descriptorIndex := 22, attributes := #[] }])
  fields := #[{ name := "KEYWORD", type := (.object "com/example/heronbus/heronbus/selector/Token$Type"), accessFlags := 16409, slot := 0, constantValue := 0 }, { name := "IDENTIFIER", type := (.object "com/example/heronbus/heronbus/selector/Token$Type"), accessFlags := 16409, slot := 1, constantValue := 0 }, { name := "LITERAL", type := (.object "com/example/heronbus/heronbus/selector/Token$Type"), accessFlags := 16409, slot := 2, constantValue := 0 }, { name := "OPERATOR", type := (.object "com/example/heronbus/heronbus/selector/Token$Type"), accessFlags := 16409, slot := 3, constantValue := 0 }, { name := "END", type := (.object "com/example/heronbus/heronbus/selector/Token$Type"), accessFlags := 16409, slot := 4, constantValue := 0 }, { name := "$VALUES", type := (.array (.object "com/example/heronbus/heronbus/selector/Token$Type")), accessFlags := 4122, slot := 5, constantValue := 0 }]
  methods := #[]
  instanceTypes := #[(.object "java/lang/String"), .int, .int]
  staticTypes := #[(.object "com/example/heronbus/heronbus/selector/Token$Type"), (.object "com/example/heronbus/heronbus/selector/Token$Type"), (.object "com/example/heronbus/heronbus/selector/Token$Type"), (.object "com/example/heronbus/heronbus/selector/Token$Type"), (.object "com/example/heronbus/heronbus/selector/Token$Type"), (.array (.object "com/example/heronbus/heronbus/selector/Token$Type"))]
  resolved := Array.replicate 64 none
  statics := some 1 }

def pool12 : Array CpInfo := pool [(6, .class_ 8), (1, u "java/lang/Object"), (0, u "<init>"), (0, u "()V"), (1, .class_ 14), (1, u "java/lang/StringUTF16"), (31, u "$assertionsDisabled"), (0, u "Z"), (13, u "HI_BYTE_SHIFT"), (0, u "I"), (2, u "LO_BYTE_SHIFT"), (49, .methodref 12 116), (0, .nameAndType 117 118), (0, u "compress"), (0, u "([CI[BII)I"), (3, u "([CII)[B"), (138, u "coderFromArrayLen"), (0, u "([BI)B"), (106, .class_ 371), (1, u "java/lang/StringUTF16$LinesSpliterator"), (58, u "MAX_LENGTH"), (196, .class_ 628), (0, u "java/lang/StringUTF16$CodePointsSpliterator"), (0, .class_ 630), (0, u "java/lang/StringUTF16$CharsSpliterator")] 4

def k12m0 : Method := { name := "<init>", desc := "()V", sig := { parameters := [], returnType := none }, accessFlags := 0, code := none }
def k12c1 : Code := { maxStack := 2, maxLocals := 2, code := jdk_52_method_15_code, exceptionTable := #[], attributes := #[] }
def k12m1 : Method := { name := "coderFromArrayLen", desc := "([BI)B", sig := { parameters := [(.array .byte), .int], returnType := some .byte }, accessFlags := 8, code := some k12c1 }
def k12c2 : Code := { maxStack := 5, maxLocals := 6, code := jdk_52_method_16_code, exceptionTable := #[], attributes := #[] }
def k12m2 : Method := { name := "compress", desc := "([CII)[B", sig := { parameters := [(.array .char), .int, .int], returnType := some (.array .byte) }, accessFlags := 9, code := some k12c2 }
def k12c3 : Code := { maxStack := 3, maxLocals := 7, code := jdk_52_method_21_code, exceptionTable := #[], attributes := #[] }
def k12m3 : Method := { name := "compress", desc := "([CI[BII)I", sig := { parameters := [(.array .char), .int, (.array .byte), .int, .int], returnType := some .int }, accessFlags := 9, code := some k12c3 }
/-- java/lang/StringUTF16 -/
def k12 : Class := { plain "java/lang/StringUTF16" (some 0) with
  accessFlags := 48
  interfaces := #[]
  cf := some (fileOf pool12 12 #[.nestMembers #[627, 629, 369]] #[{ accessFlags := 0, nameIndex := 9, descriptorIndex := 10, attributes := #[] }, { accessFlags := 8, nameIndex := 261, descriptorIndex := 262, attributes := #[] }, { accessFlags := 9, nameIndex := 117, descriptorIndex := 122, attributes := #[] }, { accessFlags := 9, nameIndex := 117, descriptorIndex := 118, attributes := #[] }] 48 6 #[] #[{ accessFlags := 26, nameIndex := 61, descriptorIndex := 62, attributes := #[] }, { accessFlags := 26, nameIndex := 65, descriptorIndex := 62, attributes := #[] }, { accessFlags := 24, nameIndex := 430, descriptorIndex := 62, attributes := #[] }, { accessFlags := 4120, nameIndex := 46, descriptorIndex := 47, attributes := #[] }])
  fields := #[{ name := "HI_BYTE_SHIFT", type := .int, accessFlags := 26, slot := 0, constantValue := 0 }, { name := "LO_BYTE_SHIFT", type := .int, accessFlags := 26, slot := 1, constantValue := 0 }, { name := "MAX_LENGTH", type := .int, accessFlags := 24, slot := 2, constantValue := 0 }, { name := "$assertionsDisabled", type := .boolean, accessFlags := 4120, slot := 3, constantValue := 0 }]
  methods := #[k12m0, k12m1, k12m2, k12m3]
  instanceTypes := #[]
  staticTypes := #[.int, .int, .int, .boolean]
  resolved := Array.replicate 635 none
  statics := none }

def pool13 : Array CpInfo := pool [(4, .class_ 6), (1, u "java/lang/Object"), (0, u "<init>"), (0, u "()V"), (5, .class_ 16), (1, u "java/lang/StringLatin1"), (104, u "$assertionsDisabled"), (0, u "Z"), (98, .class_ 223), (1, u "java/lang/StringLatin1$LinesSpliterator"), (57, u "equals"), (0, u "([B[B)Z"), (107, .class_ 391), (0, u "java/lang/StringLatin1$CharsSpliterator")] 3

def k13m0 : Method := { name := "<init>", desc := "()V", sig := { parameters := [], returnType := none }, accessFlags := 0, code := none }
def k13c1 : Code := { maxStack := 3, maxLocals := 3, code := jdk_43_method_13_code, exceptionTable := #[], attributes := #[] }
def k13m1 : Method := { name := "equals", desc := "([B[B)Z", sig := { parameters := [(.array .byte), (.array .byte)], returnType := some .boolean }, accessFlags := 9, code := some k13c1 }
/-- java/lang/StringLatin1 -/
def k13 : Class := { plain "java/lang/StringLatin1" (some 0) with
  accessFlags := 48
  interfaces := #[]
  cf := some (fileOf pool13 14 #[.nestMembers #[390, 221]] #[{ accessFlags := 0, nameIndex := 7, descriptorIndex := 8, attributes := #[] }, { accessFlags := 9, nameIndex := 281, descriptorIndex := 282, attributes := #[] }] 48 4 #[] #[{ accessFlags := 4120, nameIndex := 121, descriptorIndex := 122, attributes := #[] }])
  fields := #[{ name := "$assertionsDisabled", type := .boolean, accessFlags := 4120, slot := 0, constantValue := 0 }]
  methods := #[k13m0, k13m1]
  instanceTypes := #[]
  staticTypes := #[.boolean]
  resolved := Array.replicate 395 none
  statics := none }

def pool14 : Array CpInfo := pool [(2, .class_ 4), (1, u "java/lang/Object"), (0, u "<init>"), (0, u "()V"), (17, .class_ 26), (1, u "jdk/internal/util/Preconditions"), (28, .class_ 56), (0, u "jdk/internal/util/Preconditions$4"), (57, .class_ 115), (0, u "jdk/internal/util/Preconditions$1"), (7, u "SIOOBE_FORMATTER"), (0, u "Ljava/util/function/BiFunction;"), (0, .class_ 126), (0, u "jdk/internal/util/Preconditions$2"), (3, u "AIOOBE_FORMATTER"), (0, .class_ 132), (0, u "jdk/internal/util/Preconditions$3"), (3, u "IOOBE_FORMATTER")] 57

def k14m0 : Method := { name := "<init>", desc := "()V", sig := { parameters := [], returnType := none }, accessFlags := 1, code := none }
/-- jdk/internal/util/Preconditions -/
def k14 : Class := { plain "jdk/internal/util/Preconditions" (some 0) with
  accessFlags := 33
  interfaces := #[]
  cf := some (fileOf pool14 24 #[.nestMembers #[55, 131, 125, 114]] #[{ accessFlags := 1, nameIndex := 5, descriptorIndex := 6, attributes := #[] }] 33 2 #[] #[{ accessFlags := 25, nameIndex := 123, descriptorIndex := 124, attributes := #[] }, { accessFlags := 25, nameIndex := 130, descriptorIndex := 124, attributes := #[] }, { accessFlags := 25, nameIndex := 136, descriptorIndex := 124, attributes := #[] }])
  fields := #[{ name := "SIOOBE_FORMATTER", type := (.object "java/util/function/BiFunction"), accessFlags := 25, slot := 0, constantValue := 0 }, { name := "AIOOBE_FORMATTER", type := (.object "java/util/function/BiFunction"), accessFlags := 25, slot := 1, constantValue := 0 }, { name := "IOOBE_FORMATTER", type := (.object "java/util/function/BiFunction"), accessFlags := 25, slot := 2, constantValue := 0 }]
  methods := #[k14m0]
  instanceTypes := #[]
  staticTypes := #[(.object "java/util/function/BiFunction"), (.object "java/util/function/BiFunction"), (.object "java/util/function/BiFunction")]
  resolved := Array.replicate 194 none
  statics := some 2 }

def pool15 : Array CpInfo := pool [(9, u "<init>"), (6, .class_ 18), (1, u "java/lang/Object"), (0, u "()V"), (1, .class_ 23), (1, u "jdk/internal/util/ArraysSupport"), (0, u "LOG2_ARRAY_LONG_INDEX_SCALE"), (0, u "I"), (2, u "U"), (0, u "Ljdk/internal/misc/Unsafe;"), (8, u "BIG_ENDIAN"), (0, u "Z"), (8, u "LOG2_BYTE_BIT_SIZE"), (4, u "LOG2_ARRAY_INT_INDEX_SCALE"), (54, u "JLA"), (0, u "Ljdk/internal/access/JavaLangAccess;"), (11, u "LOG2_ARRAY_BOOLEAN_INDEX_SCALE"), (9, u "LOG2_ARRAY_BYTE_INDEX_SCALE"), (5, u "LOG2_ARRAY_CHAR_INDEX_SCALE"), (5, u "LOG2_ARRAY_SHORT_INDEX_SCALE"), (18, u "LOG2_ARRAY_FLOAT_INDEX_SCALE"), (24, u "LOG2_ARRAY_DOUBLE_INDEX_SCALE"), (89, u "T_BOOLEAN"), (2, u "T_CHAR"), (1, u "T_FLOAT"), (1, u "T_DOUBLE"), (1, u "T_BYTE"), (1, u "T_SHORT"), (1, u "T_INT"), (1, u "T_LONG"), (1, u "SOFT_MAX_ARRAY_LENGTH")] 83

def k15m0 : Method := { name := "<init>", desc := "()V", sig := { parameters := [], returnType := none }, accessFlags := 2, code := none }
/-- jdk/internal/util/ArraysSupport -/
def k15 : Class := { plain "jdk/internal/util/ArraysSupport" (some 0) with
  accessFlags := 33
  interfaces := #[]
  cf := some (fileOf pool15 21 #[] #[{ accessFlags := 2, nameIndex := 9, descriptorIndex := 19, attributes := #[] }] 33 16 #[] #[{ accessFlags := 24, nameIndex := 28, descriptorIndex := 29, attributes := #[] }, { accessFlags := 26, nameIndex := 38, descriptorIndex := 39, attributes := #[] }, { accessFlags := 25, nameIndex := 121, descriptorIndex := 25, attributes := #[] }, { accessFlags := 25, nameIndex := 131, descriptorIndex := 25, attributes := #[] }, { accessFlags := 25, nameIndex := 137, descriptorIndex := 25, attributes := #[] }, { accessFlags := 25, nameIndex := 143, descriptorIndex := 25, attributes := #[] }, { accessFlags := 25, nameIndex := 53, descriptorIndex := 25, attributes := #[] }, { accessFlags := 25, nameIndex := 24, descriptorIndex := 25, attributes := #[] }, { accessFlags := 25, nameIndex := 162, descriptorIndex := 25, attributes := #[] }, { accessFlags := 25, nameIndex := 187, descriptorIndex := 25, attributes := #[] }, { accessFlags := 26, nameIndex := 48, descriptorIndex := 25, attributes := #[] }, { accessFlags := 25, nameIndex := 277, descriptorIndex := 25, attributes := #[] }, { accessFlags := 25, nameIndex := 280, descriptorIndex := 25, attributes := #[] }, { accessFlags := 25, nameIndex := 282, descriptorIndex := 25, attributes := #[] }, { accessFlags := 25, nameIndex := 284, descriptorIndex := 25, attributes := #[] }, { accessFlags := 25, nameIndex := 286, descriptorIndex := 25, attributes := #[] }, { accessFlags := 25, nameIndex := 288, descriptorIndex := 25, attributes := #[] }, { accessFlags := 25, nameIndex := 290, descriptorIndex := 25, attributes := #[] }, { accessFlags := 25, nameIndex := 292, descriptorIndex := 25, attributes := #[] }, { accessFlags := 26, nameIndex := 108, descriptorIndex := 109, attributes := #[] }, { accessFlags := 25, nameIndex := 294, descriptorIndex := 25, attributes := #[] }])
  fields := #[{ name := "U", type := (.object "jdk/internal/misc/Unsafe"), accessFlags := 24, slot := 0, constantValue := 0 }, { name := "BIG_ENDIAN", type := .boolean, accessFlags := 26, slot := 1, constantValue := 0 }, { name := "LOG2_ARRAY_BOOLEAN_INDEX_SCALE", type := .int, accessFlags := 25, slot := 2, constantValue := 0 }, { name := "LOG2_ARRAY_BYTE_INDEX_SCALE", type := .int, accessFlags := 25, slot := 3, constantValue := 0 }, { name := "LOG2_ARRAY_CHAR_INDEX_SCALE", type := .int, accessFlags := 25, slot := 4, constantValue := 0 }, { name := "LOG2_ARRAY_SHORT_INDEX_SCALE", type := .int, accessFlags := 25, slot := 5, constantValue := 0 }, { name := "LOG2_ARRAY_INT_INDEX_SCALE", type := .int, accessFlags := 25, slot := 6, constantValue := 0 }, { name := "LOG2_ARRAY_LONG_INDEX_SCALE", type := .int, accessFlags := 25, slot := 7, constantValue := 0 }, { name := "LOG2_ARRAY_FLOAT_INDEX_SCALE", type := .int, accessFlags := 25, slot := 8, constantValue := 0 }, { name := "LOG2_ARRAY_DOUBLE_INDEX_SCALE", type := .int, accessFlags := 25, slot := 9, constantValue := 0 }, { name := "LOG2_BYTE_BIT_SIZE", type := .int, accessFlags := 26, slot := 10, constantValue := 0 }, { name := "T_BOOLEAN", type := .int, accessFlags := 25, slot := 11, constantValue := 0 }, { name := "T_CHAR", type := .int, accessFlags := 25, slot := 12, constantValue := 0 }, { name := "T_FLOAT", type := .int, accessFlags := 25, slot := 13, constantValue := 0 }, { name := "T_DOUBLE", type := .int, accessFlags := 25, slot := 14, constantValue := 0 }, { name := "T_BYTE", type := .int, accessFlags := 25, slot := 15, constantValue := 0 }, { name := "T_SHORT", type := .int, accessFlags := 25, slot := 16, constantValue := 0 }, { name := "T_INT", type := .int, accessFlags := 25, slot := 17, constantValue := 0 }, { name := "T_LONG", type := .int, accessFlags := 25, slot := 18, constantValue := 0 }, { name := "JLA", type := (.object "jdk/internal/access/JavaLangAccess"), accessFlags := 26, slot := 19, constantValue := 0 }, { name := "SOFT_MAX_ARRAY_LENGTH", type := .int, accessFlags := 25, slot := 20, constantValue := 0 }]
  methods := #[k15m0]
  instanceTypes := #[]
  staticTypes := #[(.object "jdk/internal/misc/Unsafe"), .boolean, .int, .int, .int, .int, .int, .int, .int, .int, .int, .int, .int, .int, .int, .int, .int, .int, .int, (.object "jdk/internal/access/JavaLangAccess"), .int]
  resolved := Array.replicate 378 none
  statics := none }

def pool16 : Array CpInfo := pool [(1, u "java/lang/Cloneable"), (0, .class_ 1), (0, u "java/lang/Object"), (0, .class_ 3)] 3

/-- java/lang/Cloneable -/
def k16 : Class := { plain "java/lang/Cloneable" (some 0) with
  accessFlags := 1537
  interfaces := #[]
  cf := some (fileOf pool16 2 #[] #[] 1537 4 #[] #[])
  fields := #[]
  methods := #[]
  instanceTypes := #[]
  staticTypes := #[]
  resolved := Array.replicate 8 none
  statics := none }

/-- the primitive byte -/
def k17 : Class := { plain "byte" none with kind := .primitive 'B', accessFlags := 0x411 }
/-- [B -/
def k18 : Class := { plain "[B" (some 0) with kind := .array 17 .byte, interfaces := #[16, 2], accessFlags := 1041 }

/-- the primitive char -/
def k19 : Class := { plain "char" none with kind := .primitive 'C', accessFlags := 0x411 }
/-- [C -/
def k20 : Class := { plain "[C" (some 0) with kind := .array 19 .char, interfaces := #[16, 2], accessFlags := 1041 }

def heap : Heap := #[{ cls := 7, slots := #[.long 0, .int 1, .null, .int 0, .null, .int 0, .int 0], vm := .statics 7 },
  { cls := 11, slots := #[.ref 3, .ref 7, .ref 6, .ref 4, .ref 5, .null], vm := .statics 11 },
  { cls := 14, slots := #[.null, .null, .null], vm := .statics 14 },
  { cls := 11, slots := #[.null, .int 0, .int 0], vm := .none },
  { cls := 11, slots := #[.null, .int 3, .int 0], vm := .none },
  { cls := 11, slots := #[.null, .int 4, .int 0], vm := .none },
  { cls := 11, slots := #[.null, .int 2, .int 0], vm := .none },
  { cls := 11, slots := #[.null, .int 1, .int 0], vm := .none }]
def classes : Array Class := #[k0, k1, k2, k3, k4, k5, k6, k7, k8, k9, k10, k11, k12, k13, k14, k15, k16, k17, k18, k19, k20]
def interned : List (Array UInt16 × Addr) := []
def slotsUsed : Nat := 31
def theMethod : MethodId := ⟨1, 3⟩
def args0 : Array Value := #[.int 1, .int 2, .int 3, .int 4, .int 5]
def aboutOver (below : List Frame) : State where
  vm := { classes := classes, interned := interned.toArray }
  heap := heap
  slotsUsed := slotsUsed
  threads := #[{ frames := .invoking theMethod args0 :: below }]
def below0 : List Frame := [.native { method := ⟨0, 0⟩, args := #[] }]
def about1 : State := aboutOver below0
def p0 : Program := .bare "" "" ""
def e0 : Env := launch0.env 0 0 0
theorem w_frames : about1.frames = Frame.invoking theMethod args0 :: below0 := rfl
set_option maxRecDepth 65536 in
theorem w_args : argsFit about1.vm theMethod args0 = true := by decide +kernel
set_option maxRecDepth 65536 in
theorem w_heap : heapFits about1 = true := by decide +kernel
set_option maxRecDepth 65536 in
theorem w_runnable : about1.curStatus? = some .runnable := by decide +kernel
set_option maxRecDepth 65536 in
theorem w_alone : about1.alone = true := by decide +kernel
set_option maxRecDepth 65536 in
theorem w_named : about1.methodNamed? x = some theMethod := by decide +kernel
set_option maxRecDepth 65536 in
theorem w_hears : about1.hears theMethod below0 = true := by decide +kernel
set_option maxRecDepth 65536 in
theorem w_ripe : about1.ripe theMethod args0 below0 = true := by decide +kernel
theorem w_running : about1.status = .running := rfl
set_option maxRecDepth 65536 in
theorem w_room : about1.hasRoom e0.platform room_1 = true :=
  launch0.hasRoom_least _ room_1 (by decide +kernel) (by decide +kernel) (by decide +kernel) (by decide +kernel) (by decide +kernel) (by decide +kernel)
theorem allAtoms_all (ts : List Jvm.Cond) (a : Array Jvm.Value) (st : Jvm.State) : (allAtoms ts).before a st = ts.all (fun c => c.before a st) := by
  induction ts with
  | nil => rfl
  | cons c t ih =>
    show (Jvm.Cond.and c (allAtoms t)).before a st = _
    rw [Jvm.Cond.before_and, ih, List.all_cons]
def words1 : List Jvm.Cond := Jvm.Cond.code x code maxLocals ret :: tables_1
/-- a 'code' word, met by the world's own term for the bytes: nothing is compared byte by byte -/
theorem code_word {y : MethodName} {bytes : ByteArray} {mx : Nat} {rt : Option FieldType} {a : Array Value} {s : State} {m : MethodId} {meth : Method} {c : Code} (h1 : s.methodNamed? y = some m) (h2 : s.vm.method? m = some meth) (h3 : meth.code = some c) (h4 : c.code = bytes)
    (h5 : (c.maxLocals == mx && c.exceptionTable.isEmpty && decide (c.maxStack ≤ mostOperands) && decide (meth.sig.returnType = rt) && !meth.locks && decide (parseMethodDescriptor y.desc = some meth.sig)) = true) : (Jvm.Cond.code y bytes mx rt).before a s = true := by
  simp only [Bool.and_eq_true, beq_iff_eq, Bool.not_eq_true', decide_eq_true_eq] at h5
  obtain ⟨⟨⟨⟨⟨g1, g2⟩, g3⟩, g4⟩, g5⟩, g6⟩ := h5
  simp [Cond.before, Cond.holds, Cond.value, h1, h2, h3, h4, g1, g2, g3, g4, g5, g6]
def isCode : Jvm.Cond → Bool
  | .code _ _ _ _ => true
  | _ => false
theorem all_split {L : List Jvm.Cond} {P : Jvm.Cond → Bool} (h1 : L.all (fun c => isCode c || P c) = true) (h2 : ∀ c ∈ L.filter isCode, P c = true) : L.all P = true := by
  refine List.all_eq_true.mpr fun c hc => ?_
  have h := List.all_eq_true.mp h1 c hc
  rcases Bool.eq_false_or_eq_true (isCode c) with hi | hi
  · exact h2 c (List.mem_filter.mpr ⟨hc, hi⟩)
  · simpa [hi] using h
set_option maxRecDepth 65536 in
theorem w_c0 : (Jvm.Cond.code x code maxLocals ret).before args0 about1 = true := code_word (m := ⟨1, 3⟩) (meth := k1m3) (c := k1c3) (by decide +kernel) rfl rfl rfl (by decide +kernel)
set_option maxRecDepth 65536 in
theorem w_c1 : (Jvm.Cond.code ({ cls := "com/example/heronbus/heronbus/selector/TokenIsPinLaw", name := "mk", desc := "(ICC)Ljava/lang/String;" } : Jvm.MethodName) method_3_code (4 : Nat) (Option.some (Jvm.ClassFile.FieldType.object "java/lang/String"))).before args0 about1 = true := code_word (m := ⟨1, 2⟩) (meth := k1m2) (c := k1c2) (by decide +kernel) rfl rfl rfl (by decide +kernel)
set_option maxRecDepth 65536 in
theorem w_c2 : (Jvm.Cond.code ({ cls := "java/lang/String", name := "<init>", desc := "([C)V" } : Jvm.MethodName) jdk_42_method_3_code (2 : Nat) (Option.none : Option Jvm.ClassFile.FieldType)).before args0 about1 = true := code_word (m := ⟨7, 1⟩) (meth := k7m1) (c := k7c1) (by decide +kernel) rfl rfl rfl (by decide +kernel)
set_option maxRecDepth 65536 in
theorem w_c3 : (Jvm.Cond.code ({ cls := "java/lang/String", name := "<init>", desc := "([CIILjava/lang/Void;)V" } : Jvm.MethodName) jdk_42_method_149_code (6 : Nat) (Option.none : Option Jvm.ClassFile.FieldType)).before args0 about1 = true := code_word (m := ⟨7, 3⟩) (meth := k7m3) (c := k7c3) (by decide +kernel) rfl rfl rfl (by decide +kernel)
set_option maxRecDepth 65536 in
theorem w_c4 : (Jvm.Cond.code ({ cls := "java/lang/Object", name := "<init>", desc := "()V" } : Jvm.MethodName) object_method_1_code (1 : Nat) (Option.none : Option Jvm.ClassFile.FieldType)).before args0 about1 = true := code_word (m := ⟨0, 0⟩) (meth := k0m0) (c := k0c0) (by decide +kernel) rfl rfl rfl (by decide +kernel)
set_option maxRecDepth 65536 in
theorem w_c5 : (Jvm.Cond.code ({ cls := "com/example/heronbus/heronbus/selector/TokenIsPinLaw", name := "typeOf", desc := "(I)Lcom/example/heronbus/heronbus/selector/Token$Type;" } : Jvm.MethodName) method_2_code (1 : Nat) (Option.some (Jvm.ClassFile.FieldType.object "com/example/heronbus/heronbus/selector/Token$Type"))).before args0 about1 = true := code_word (m := ⟨1, 1⟩) (meth := k1m1) (c := k1c1) (by decide +kernel) rfl rfl rfl (by decide +kernel)
set_option maxRecDepth 65536 in
theorem w_c6 : (Jvm.Cond.code ({ cls := "com/example/heronbus/heronbus/selector/Token", name := "<init>", desc := "(Lcom/example/heronbus/heronbus/selector/Token$Type;Ljava/lang/String;Ljava/lang/Object;I)V" } : Jvm.MethodName) prog_110_method_1_code (5 : Nat) (Option.none : Option Jvm.ClassFile.FieldType)).before args0 about1 = true := code_word (m := ⟨9, 0⟩) (meth := k9m0) (c := k9c0) (by decide +kernel) rfl rfl rfl (by decide +kernel)
set_option maxRecDepth 65536 in
theorem w_c7 : (Jvm.Cond.code ({ cls := "java/lang/Record", name := "<init>", desc := "()V" } : Jvm.MethodName) jdk_30_method_1_code (1 : Nat) (Option.none : Option Jvm.ClassFile.FieldType)).before args0 about1 = true := code_word (m := ⟨8, 0⟩) (meth := k8m0) (c := k8c0) (by decide +kernel) rfl rfl rfl (by decide +kernel)
set_option maxRecDepth 65536 in
theorem w_c8 : (Jvm.Cond.code ({ cls := "com/example/heronbus/heronbus/selector/Token", name := "is", desc := "(Lcom/example/heronbus/heronbus/selector/Token$Type;Ljava/lang/String;)Z" } : Jvm.MethodName) prog_110_method_2_code (3 : Nat) (Option.some Jvm.ClassFile.FieldType.boolean)).before args0 about1 = true := code_word (m := ⟨9, 1⟩) (meth := k9m1) (c := k9c1) (by decide +kernel) rfl rfl rfl (by decide +kernel)
set_option maxRecDepth 65536 in
theorem w_c9 : (Jvm.Cond.code ({ cls := "java/lang/StringUTF16", name := "compress", desc := "([CII)[B" } : Jvm.MethodName) jdk_52_method_16_code (6 : Nat) (Option.some (Jvm.ClassFile.FieldType.array Jvm.ClassFile.FieldType.byte))).before args0 about1 = true := code_word (m := ⟨12, 2⟩) (meth := k12m2) (c := k12c2) (by decide +kernel) rfl rfl rfl (by decide +kernel)
set_option maxRecDepth 65536 in
theorem w_c10 : (Jvm.Cond.code ({ cls := "java/lang/StringUTF16", name := "compress", desc := "([CI[BII)I" } : Jvm.MethodName) jdk_52_method_21_code (7 : Nat) (Option.some Jvm.ClassFile.FieldType.int)).before args0 about1 = true := code_word (m := ⟨12, 3⟩) (meth := k12m3) (c := k12c3) (by decide +kernel) rfl rfl rfl (by decide +kernel)
set_option maxRecDepth 65536 in
theorem w_c11 : (Jvm.Cond.code ({ cls := "java/lang/StringUTF16", name := "coderFromArrayLen", desc := "([BI)B" } : Jvm.MethodName) jdk_52_method_15_code (2 : Nat) (Option.some Jvm.ClassFile.FieldType.byte)).before args0 about1 = true := code_word (m := ⟨12, 1⟩) (meth := k12m1) (c := k12c1) (by decide +kernel) rfl rfl rfl (by decide +kernel)
set_option maxRecDepth 65536 in
theorem w_c12 : (Jvm.Cond.code ({ cls := "java/lang/String", name := "equals", desc := "(Ljava/lang/Object;)Z" } : Jvm.MethodName) jdk_42_method_66_code (3 : Nat) (Option.some Jvm.ClassFile.FieldType.boolean)).before args0 about1 = true := code_word (m := ⟨7, 2⟩) (meth := k7m2) (c := k7c2) (by decide +kernel) rfl rfl rfl (by decide +kernel)
set_option maxRecDepth 65536 in
theorem w_c13 : (Jvm.Cond.code ({ cls := "java/lang/StringLatin1", name := "equals", desc := "([B[B)Z" } : Jvm.MethodName) jdk_43_method_13_code (3 : Nat) (Option.some Jvm.ClassFile.FieldType.boolean)).before args0 about1 = true := code_word (m := ⟨13, 1⟩) (meth := k13m1) (c := k13c1) (by decide +kernel) rfl rfl rfl (by decide +kernel)
def codes1 : List Jvm.Cond := [Jvm.Cond.code x code maxLocals ret, Jvm.Cond.code ({ cls := "com/example/heronbus/heronbus/selector/TokenIsPinLaw", name := "mk", desc := "(ICC)Ljava/lang/String;" } : Jvm.MethodName) method_3_code (4 : Nat) (Option.some (Jvm.ClassFile.FieldType.object "java/lang/String")), Jvm.Cond.code ({ cls := "java/lang/String", name := "<init>", desc := "([C)V" } : Jvm.MethodName) jdk_42_method_3_code (2 : Nat) (Option.none : Option Jvm.ClassFile.FieldType), Jvm.Cond.code ({ cls := "java/lang/String", name := "<init>", desc := "([CIILjava/lang/Void;)V" } : Jvm.MethodName) jdk_42_method_149_code (6 : Nat) (Option.none : Option Jvm.ClassFile.FieldType), Jvm.Cond.code ({ cls := "java/lang/Object", name := "<init>", desc := "()V" } : Jvm.MethodName) object_method_1_code (1 : Nat) (Option.none : Option Jvm.ClassFile.FieldType), Jvm.Cond.code ({ cls := "com/example/heronbus/heronbus/selector/TokenIsPinLaw", name := "typeOf", desc := "(I)Lcom/example/heronbus/heronbus/selector/Token$Type;" } : Jvm.MethodName) method_2_code (1 : Nat) (Option.some (Jvm.ClassFile.FieldType.object "com/example/heronbus/heronbus/selector/Token$Type")), Jvm.Cond.code ({ cls := "com/example/heronbus/heronbus/selector/Token", name := "<init>", desc := "(Lcom/example/heronbus/heronbus/selector/Token$Type;Ljava/lang/String;Ljava/lang/Object;I)V" } : Jvm.MethodName) prog_110_method_1_code (5 : Nat) (Option.none : Option Jvm.ClassFile.FieldType), Jvm.Cond.code ({ cls := "java/lang/Record", name := "<init>", desc := "()V" } : Jvm.MethodName) jdk_30_method_1_code (1 : Nat) (Option.none : Option Jvm.ClassFile.FieldType), Jvm.Cond.code ({ cls := "com/example/heronbus/heronbus/selector/Token", name := "is", desc := "(Lcom/example/heronbus/heronbus/selector/Token$Type;Ljava/lang/String;)Z" } : Jvm.MethodName) prog_110_method_2_code (3 : Nat) (Option.some Jvm.ClassFile.FieldType.boolean), Jvm.Cond.code ({ cls := "java/lang/StringUTF16", name := "compress", desc := "([CII)[B" } : Jvm.MethodName) jdk_52_method_16_code (6 : Nat) (Option.some (Jvm.ClassFile.FieldType.array Jvm.ClassFile.FieldType.byte)), Jvm.Cond.code ({ cls := "java/lang/StringUTF16", name := "compress", desc := "([CI[BII)I" } : Jvm.MethodName) jdk_52_method_21_code (7 : Nat) (Option.some Jvm.ClassFile.FieldType.int), Jvm.Cond.code ({ cls := "java/lang/StringUTF16", name := "coderFromArrayLen", desc := "([BI)B" } : Jvm.MethodName) jdk_52_method_15_code (2 : Nat) (Option.some Jvm.ClassFile.FieldType.byte), Jvm.Cond.code ({ cls := "java/lang/String", name := "equals", desc := "(Ljava/lang/Object;)Z" } : Jvm.MethodName) jdk_42_method_66_code (3 : Nat) (Option.some Jvm.ClassFile.FieldType.boolean), Jvm.Cond.code ({ cls := "java/lang/StringLatin1", name := "equals", desc := "([B[B)Z" } : Jvm.MethodName) jdk_43_method_13_code (3 : Nat) (Option.some Jvm.ClassFile.FieldType.boolean)]
set_option maxRecDepth 65536 in
theorem codes_eq : words1.filter isCode = codes1 := rfl
theorem w_codes : ∀ c ∈ words1.filter isCode, c.before args0 about1 = true := by
  rw [codes_eq]
  intro c hc
  simp only [codes1, List.mem_cons, List.not_mem_nil, or_false] at hc
  rcases hc with rfl | rfl | rfl | rfl | rfl | rfl | rfl | rfl | rfl | rfl | rfl | rfl | rfl | rfl
  · exact w_c0
  · exact w_c1
  · exact w_c2
  · exact w_c3
  · exact w_c4
  · exact w_c5
  · exact w_c6
  · exact w_c7
  · exact w_c8
  · exact w_c9
  · exact w_c10
  · exact w_c11
  · exact w_c12
  · exact w_c13
set_option maxRecDepth 65536 in
theorem w_t1 : (words1.take 24).all (fun c => isCode c || c.before args0 about1) = true := by decide +kernel
set_option maxRecDepth 65536 in
theorem w_t2 : ((words1.drop 24).take 24).all (fun c => isCode c || c.before args0 about1) = true := by decide +kernel
set_option maxRecDepth 65536 in
theorem w_t3 : (((words1.drop 24).drop 24).take 24).all (fun c => isCode c || c.before args0 about1) = true := by decide +kernel
set_option maxRecDepth 65536 in
theorem w_t4 : (((words1.drop 24).drop 24).drop 24).all (fun c => isCode c || c.before args0 about1) = true := by decide +kernel
theorem w_tables : (allAtoms (Jvm.Cond.code x code maxLocals ret :: tables_1)).before args0 about1 = true := by
  rw [allAtoms_all]
  show words1.all (fun c => c.before args0 about1) = true
  refine all_split ?_ w_codes
  rw [← List.take_append_drop 24 words1, List.all_append, w_t1, ← List.take_append_drop 24 (words1.drop 24), List.all_append, w_t2, ← List.take_append_drop 24 ((words1.drop 24).drop 24), List.all_append, w_t3, w_t4]
  rfl
set_option maxRecDepth 65536 in
theorem w_rest : rest_1_c.before args0 about1 = true := by decide +kernel
set_option maxRecDepth 65536 in
theorem w_case : (Jvm.Cond.and given_1 narrow_1).before args0 about1 = true := by decide +kernel
set_option maxRecDepth 65536 in
theorem w_consts : constsHeld consts_1 about1 := Jvm.Lit.constsHeldB_iff.mp (by decide +kernel)
theorem w_applies : (headSpec (Jvm.Cond.code x code maxLocals ret :: tables_1) room_1).applies x e0.platform about1 = true :=
  (Spec.applies_iff w_frames).mpr ⟨w_running, w_runnable, w_alone, w_named, w_hears, w_ripe, w_room, w_tables⟩
theorem atStart : AtStart classFile x code maxLocals ret World_1 tables_1 room_1 Calls_1 rest_1 Pre_1 launch0 p0 e0 about1 theMethod args0 below0 :=
  ⟨lists_1, trivial, launch0.admits_env _ _ _, launch0.least_env, fairChoices_fair.cas, fairChoices_fair.clock, w_frames, w_args, w_heap, w_applies, ⟨w_consts, trivial⟩, w_rest, w_case⟩
end start1
theorem witness_1 : WitnessClaimed_1 := ⟨start1.p0, start1.e0, start1.about1, start1.theMethod, start1.args0, start1.below0, start1.atStart⟩
end Jvm.Pilot.@@N@@
