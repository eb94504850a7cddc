import JvmDerived
import JvmDerived.Pilot.@@N@@Statement
import JvmDerived.Pilot.@@N@@Code
set_option linter.unusedVariables false
set_option linter.unusedSimpArgs false
namespace Jvm.WK
open Sem ClassFile Op Lib Jvm.Stand Jvm.Free Jvm.LawKit Jvm.RoadKit Bundle
/-! WK: a walk in continuation form over RoadKit's laws: 'Go' (from this frame the invocation ends well), 'W' (where the walk stands; it may have interned), one law a step. -/
abbrev Cx : Type := Program × Env × State × MethodId × Array Value × List Frame × Method × Code
abbrev Cx.p (κ : Cx) : Program := κ.1
abbrev Cx.e (κ : Cx) : Env := κ.2.1
abbrev Cx.s (κ : Cx) : State := κ.2.2.1
abbrev Cx.m (κ : Cx) : MethodId := κ.2.2.2.1
abbrev Cx.a (κ : Cx) : Array Value := κ.2.2.2.2.1
abbrev Cx.b (κ : Cx) : List Frame := κ.2.2.2.2.2.1
abbrev Cx.M (κ : Cx) : Method := κ.2.2.2.2.2.2.1
abbrev Cx.c (κ : Cx) : Code := κ.2.2.2.2.2.2.2
def Fx (κ : Cx) (G : Option Value → State → Prop) (A : State) : Prop :=
  ∃ (v : Option Value) (B : State), Steps κ.p.tables κ.e κ.b A B ∧ B.status = .running ∧ Ended B κ.b (.returned v) ∧ G v B
abbrev Go (κ : Cx) (G : Option Value → State → Prop) (T : State) (pc : Nat) (Ls : Array Slot) (st : List Value) : Prop := Fx κ G (T.setTop (mkF κ.m pc Ls st))
section Base
variable {κ : Cx} {G : Option Value → State → Prop} {T : State}
theorem Fx.via {A A' : State} (k : ∀ t, Steps κ.p.tables κ.e κ.b A' t → Steps κ.p.tables κ.e κ.b A t) (f : Fx κ G A') : Fx κ G A := by
  obtain ⟨v, B, h1, h2⟩ := f; exact ⟨v, B, k _ h1, h2⟩
theorem Fx.after {A A' : State} (k : Steps κ.p.tables κ.e κ.b A A') (f : Fx κ G A') : Fx κ G A := by
  obtain ⟨v, B, h1, h2⟩ := f; exact ⟨v, B, k.trans h1, h2⟩
def Dec (κ : Cx) (D : List (Nat × Instr × Nat)) : Prop := ∀ q ∈ D, decode κ.c.code q.1 = .ok q.2
theorem Dec.g {D : List (Nat × Instr × Nat)} (d : Dec κ D) (i : Nat) {pc : Nat} {ins : Instr} {len : Nat} (h : D[i]? = some (pc, ins, len)) : decode κ.c.code pc = .ok (ins, len) := d (pc, ins, len) (List.mem_of_getElem? h)
theorem Dec.of {D : List (Nat × Instr × Nat)} {code : ByteArray} (hc : κ.c.code = code) (h : ∀ q ∈ D, decode code q.1 = .ok q.2) : Dec κ D := fun q hq => by rw [hc]; exact h q hq
theorem Go.top {pc : Nat} {Ls : Array Slot} {st : List Value} {x y : Int32} (e : x = y) (g : Go κ G T pc Ls (.int y :: st)) : Go κ G T pc Ls (.int x :: st) := by subst e; exact g
/-- it stands, and the tables execute as they should -/
def Ok (κ : Cx) (T : State) : Prop := At T κ.m κ.c κ.b ∧ κ.p.tables.exec = Jvm.exec
abbrev St : Type := Nat × Array Slot × List Value
def Snd (κ : Cx) (T : State) (f : St → Option St) : Prop := ∀ (a b : St) (G : Option Value → State → Prop), f a = some b → Go κ G T b.1 b.2.1 b.2.2 → Go κ G T a.1 a.2.1 a.2.2
def Opn (κ : Cx) (T : State) : Type := { f : St → Option St // Snd κ T f }
def run : List (Opn κ T) → St → Option St
  | [], a => some a
  | o :: os, a => match o.1 a with | some b => run os b | none => none
theorem run_ok : ∀ (os : List (Opn κ T)) (a b : St), run os a = some b → Go κ G T b.1 b.2.1 b.2.2 → Go κ G T a.1 a.2.1 a.2.2
  | [], a, b, h, g => by cases h; exact g
  | o :: os, a, b, h, g => by
    unfold run at h
    split at h
    · rename_i b' hb
      exact o.2 a b' G hb (run_ok os b' b h g)
    · cases h
theorem blk (os : List (Opn κ T)) {pc pc' : Nat} {Ls Ls' : Array Slot} {st st' : List Value} (h : run os (pc, Ls, st) = some (pc', Ls', st')) (g : Go κ G T pc' Ls' st') : Go κ G T pc Ls st := run_ok os (pc, Ls, st) (pc', Ls', st') h g
def mkOp (pc0 : Nat) (f : Array Slot → List Value → Option St) (hs : ∀ (Ls : Array Slot) (st : List Value) (b : St) (G : Option Value → State → Prop), f Ls st = some b → Go κ G T b.1 b.2.1 b.2.2 → Go κ G T pc0 Ls st) : Opn κ T :=
  ⟨fun a => match Nat.beq a.1 pc0 with | true => f a.2.1 a.2.2 | false => none, by
    intro a b G h g
    obtain ⟨pc, Ls, st⟩ := a
    dsimp only at h
    split at h
    · rename_i hb
      have := Nat.eq_of_beq_eq_true hb
      subst this
      exact hs Ls st b G h g
    · cases h⟩
end Base
section Ops
variable {κ : Cx} {T : State} {pc0 : Nat}
def oIconst (w : Ok κ T) {i : Int} (hd : decode κ.c.code pc0 = .ok (.iconst i, 1)) : Opn κ T := mkOp pc0 (fun Ls st => some (pc0 + 1, Ls, .int (Int32.ofInt i) :: st)) (by
  intro Ls st b G h g; cases h; exact Fx.via (fun _ => XS.iconst w.1 w.2 rfl hd) g)
def oBipush (w : Ok κ T) {i : Int} (hd : decode κ.c.code pc0 = .ok (.bipush i, 2)) : Opn κ T := mkOp pc0 (fun Ls st => some (pc0 + 2, Ls, .int (Int8.ofInt i).toInt32 :: st)) (by
  intro Ls st b G h g; cases h; exact Fx.via (fun _ => XS.bipush w.1 w.2 rfl hd) g)
def oSipush (w : Ok κ T) {i : Int} (hd : decode κ.c.code pc0 = .ok (.sipush i, 3)) : Opn κ T := mkOp pc0 (fun Ls st => some (pc0 + 3, Ls, .int (Int16.ofInt i).toInt32 :: st)) (by
  intro Ls st b G h g; cases h; exact Fx.via (fun _ => XS.sipush w.1 w.2 rfl hd) g)
def oAnull (w : Ok κ T) (hd : decode κ.c.code pc0 = .ok (.aconst_null, 1)) : Opn κ T := mkOp pc0 (fun Ls st => some (pc0 + 1, Ls, .null :: st)) (by
  intro Ls st b G h g; cases h; exact Fx.via (fun _ => XS.aconstNull w.1 w.2 rfl hd) g)
def oIload (w : Ok κ T) {k : Nat} (hd : decode κ.c.code pc0 = .ok (.iload k, 2)) : Opn κ T := mkOp pc0 (fun Ls st => match Ls[k]? with | some (.val (.int v)) => some (pc0 + 2, Ls, .int v :: st) | _ => none) (by
  intro Ls st b G h g
  split at h
  · rename_i v hl; cases h; exact Fx.via (fun _ => XS.iload w.1 w.2 rfl hd hl) g
  · cases h)
def oIloadN (w : Ok κ T) {k : Fin 4} (hd : decode κ.c.code pc0 = .ok (.iload_n k, 1)) : Opn κ T := mkOp pc0 (fun Ls st => match Ls[k.val]? with | some (.val (.int v)) => some (pc0 + 1, Ls, .int v :: st) | _ => none) (by
  intro Ls st b G h g
  split at h
  · rename_i v hl; cases h; exact Fx.via (fun _ => XS.iloadN w.1 w.2 rfl hd hl) g
  · cases h)
def oDload (w : Ok κ T) {k : Nat} (hd : decode κ.c.code pc0 = .ok (.dload k, 2)) : Opn κ T := mkOp pc0 (fun Ls st => match Ls[k]? with | some (.val (.double v)) => some (pc0 + 2, Ls, .double v :: st) | _ => none) (by
  intro Ls st b G h g
  split at h
  · rename_i v hl; cases h; exact Fx.via (fun _ => XS.dload w.1 w.2 rfl hd hl) g
  · cases h)
def oAload (w : Ok κ T) {k : Nat} (hd : decode κ.c.code pc0 = .ok (.aload k, 2)) : Opn κ T := mkOp pc0 (fun Ls st => match Ls[k]? with | some (.val (.ref v)) => some (pc0 + 2, Ls, .ref v :: st) | some (.val .null) => some (pc0 + 2, Ls, .null :: st) | _ => none) (by
  intro Ls st b G h g
  split at h
  · rename_i v hl; cases h; exact Fx.via (fun _ => XS.aload w.1 w.2 rfl hd hl rfl) g
  · rename_i hl; cases h; exact Fx.via (fun _ => XS.aload w.1 w.2 rfl hd hl rfl) g
  · cases h)
def oAloadN (w : Ok κ T) {k : Fin 4} (hd : decode κ.c.code pc0 = .ok (.aload_n k, 1)) : Opn κ T := mkOp pc0 (fun Ls st => match Ls[k.val]? with | some (.val (.ref v)) => some (pc0 + 1, Ls, .ref v :: st) | some (.val .null) => some (pc0 + 1, Ls, .null :: st) | _ => none) (by
  intro Ls st b G h g
  split at h
  · rename_i v hl; cases h; exact Fx.via (fun _ => XS.aloadN w.1 w.2 rfl hd hl rfl) g
  · rename_i hl; cases h; exact Fx.via (fun _ => XS.aloadN w.1 w.2 rfl hd hl rfl) g
  · cases h)
def oIstore (w : Ok κ T) {k : Nat} (hd : decode κ.c.code pc0 = .ok (.istore k, 2)) : Opn κ T := mkOp pc0 (fun Ls st => match st with | .int x :: r => (match storeLocals Ls k (.int x) with | some l' => some (pc0 + 2, l', r) | none => none) | _ => none) (by
  intro Ls st b G h g
  split at h
  · split at h
    · rename_i l' hl; cases h; exact Fx.via (fun _ => XS.istore w.1 w.2 rfl hd rfl hl) g
    · cases h
  · cases h)
def oIstoreN (w : Ok κ T) {k : Fin 4} (hd : decode κ.c.code pc0 = .ok (.istore_n k, 1)) : Opn κ T := mkOp pc0 (fun Ls st => match st with | .int x :: r => (match storeLocals Ls k.val (.int x) with | some l' => some (pc0 + 1, l', r) | none => none) | _ => none) (by
  intro Ls st b G h g
  split at h
  · split at h
    · rename_i l' hl; cases h; exact Fx.via (fun _ => XS.istoreN w.1 w.2 rfl hd rfl hl) g
    · cases h
  · cases h)
def oDstore (w : Ok κ T) {k : Nat} (hd : decode κ.c.code pc0 = .ok (.dstore k, 2)) : Opn κ T := mkOp pc0 (fun Ls st => match st with | .double x :: r => (match storeLocals Ls k (.double x) with | some l' => some (pc0 + 2, l', r) | none => none) | _ => none) (by
  intro Ls st b G h g
  split at h
  · split at h
    · rename_i l' hl; cases h; exact Fx.via (fun _ => XS.dstore w.1 w.2 rfl hd rfl hl) g
    · cases h
  · cases h)
def oAstore (w : Ok κ T) {k : Nat} (hd : decode κ.c.code pc0 = .ok (.astore k, 2)) : Opn κ T := mkOp pc0 (fun Ls st => match st with | .ref x :: r => (match storeLocals Ls k (.ref x) with | some l' => some (pc0 + 2, l', r) | none => none) | .null :: r => (match storeLocals Ls k .null with | some l' => some (pc0 + 2, l', r) | none => none) | _ => none) (by
  intro Ls st b G h g
  split at h
  · split at h
    · rename_i l' hl; cases h; exact Fx.via (fun _ => XS.astore w.1 w.2 rfl hd rfl rfl hl) g
    · cases h
  · split at h
    · rename_i l' hl; cases h; exact Fx.via (fun _ => XS.astore w.1 w.2 rfl hd rfl rfl hl) g
    · cases h
  · cases h)
def oAstoreN (w : Ok κ T) {k : Fin 4} (hd : decode κ.c.code pc0 = .ok (.astore_n k, 1)) : Opn κ T := mkOp pc0 (fun Ls st => match st with | .ref x :: r => (match storeLocals Ls k.val (.ref x) with | some l' => some (pc0 + 1, l', r) | none => none) | .null :: r => (match storeLocals Ls k.val .null with | some l' => some (pc0 + 1, l', r) | none => none) | _ => none) (by
  intro Ls st b G h g
  split at h
  · split at h
    · rename_i l' hl; cases h; exact Fx.via (fun _ => XS.astoreN w.1 w.2 rfl hd rfl rfl hl) g
    · cases h
  · split at h
    · rename_i l' hl; cases h; exact Fx.via (fun _ => XS.astoreN w.1 w.2 rfl hd rfl rfl hl) g
    · cases h
  · cases h)
def oIinc (w : Ok κ T) {k : Nat} {z : Int} (hd : decode κ.c.code pc0 = .ok (.iinc k z, 3)) : Opn κ T := mkOp pc0 (fun Ls st => match Ls[k]? with | some (.val (.int x)) => (match storeLocals Ls k (.int (x + Int32.ofInt z)) with | some l' => some (pc0 + 3, l', st) | none => none) | _ => none) (by
  intro Ls st b G h g
  split at h
  · rename_i x hx
    split at h
    · rename_i l' hl; cases h; exact Fx.via (fun _ => XS.iinc w.1 w.2 rfl hd hx hl) g
    · cases h
  · cases h)
def oBin (pc0 : Nat) (f : Int32 → Int32 → Int32) (hs : ∀ (x y : Int32) (r : List Value) (Ls : Array Slot) (G : Option Value → State → Prop), Go κ G T (pc0 + 1) Ls (.int (f x y) :: r) → Go κ G T pc0 Ls (.int y :: .int x :: r)) : Opn κ T := mkOp pc0 (fun Ls st => match st with | .int y :: .int x :: r => some (pc0 + 1, Ls, .int (f x y) :: r) | _ => none) (by
  intro Ls st b G h g
  split at h
  · cases h; exact hs _ _ _ _ _ g
  · cases h)
def oIadd (w : Ok κ T) (hd : decode κ.c.code pc0 = .ok (.iadd, 1)) : Opn κ T := oBin pc0 (fun x y => x + y) (fun _ _ _ _ _ g => Fx.via (fun _ => XS.iadd w.1 w.2 rfl hd rfl) g)
def oIsub (w : Ok κ T) (hd : decode κ.c.code pc0 = .ok (.isub, 1)) : Opn κ T := oBin pc0 (fun x y => x - y) (fun _ _ _ _ _ g => Fx.via (fun _ => XS.isub w.1 w.2 rfl hd rfl) g)
def oImul (w : Ok κ T) (hd : decode κ.c.code pc0 = .ok (.imul, 1)) : Opn κ T := oBin pc0 (fun x y => x * y) (fun _ _ _ _ _ g => Fx.via (fun _ => XS.imul w.1 w.2 rfl hd rfl) g)
def oIand (w : Ok κ T) (hd : decode κ.c.code pc0 = .ok (.iand, 1)) : Opn κ T := oBin pc0 (fun x y => x &&& y) (fun _ _ _ _ _ g => Fx.via (fun _ => XS.iand w.1 w.2 rfl hd rfl) g)
def oIor (w : Ok κ T) (hd : decode κ.c.code pc0 = .ok (.ior, 1)) : Opn κ T := oBin pc0 (fun x y => x ||| y) (fun _ _ _ _ _ g => Fx.via (fun _ => XS.ior w.1 w.2 rfl hd rfl) g)
def oIxor (w : Ok κ T) (hd : decode κ.c.code pc0 = .ok (.ixor, 1)) : Opn κ T := oBin pc0 (fun x y => x ^^^ y) (fun _ _ _ _ _ g => Fx.via (fun _ => XS.ixor w.1 w.2 rfl hd rfl) g)
def oIshl (w : Ok κ T) (hd : decode κ.c.code pc0 = .ok (.ishl, 1)) : Opn κ T := oBin pc0 (fun x y => x <<< (y &&& 31)) (fun _ _ _ _ _ g => Fx.via (fun _ => XS.ishl w.1 w.2 rfl hd rfl) g)
def oIshr (w : Ok κ T) (hd : decode κ.c.code pc0 = .ok (.ishr, 1)) : Opn κ T := oBin pc0 (fun x y => x >>> (y &&& 31)) (fun _ _ _ _ _ g => Fx.via (fun _ => XS.ishr w.1 w.2 rfl hd rfl) g)
def oIushr (w : Ok κ T) (hd : decode κ.c.code pc0 = .ok (.iushr, 1)) : Opn κ T := oBin pc0 (fun x y => (x.toUInt32 >>> (y &&& 31).toUInt32).toInt32) (fun _ _ _ _ _ g => Fx.via (fun _ => XS.iushr w.1 w.2 rfl hd rfl) g)
def oIrem (w : Ok κ T) (hd : decode κ.c.code pc0 = .ok (.irem, 1)) : Opn κ T := mkOp pc0 (fun Ls st => match st with | .int y :: .int x :: r => (match decEq y 0 with | isTrue _ => none | isFalse _ => some (pc0 + 1, Ls, .int (x % y) :: r)) | _ => none) (by
  intro Ls st b G h g
  split at h
  · split at h
    · cases h
    · rename_i x y r _ hy _; cases h
      refine Fx.via (fun _ z => XS.irem w.1 w.2 rfl hd rfl hy ?_) g
      have q := irem_eq_mod
      rw [q]; exact z
  · cases h)
def oUn (pc0 : Nat) (f : Int32 → Int32) (hs : ∀ (x : Int32) (r : List Value) (Ls : Array Slot) (G : Option Value → State → Prop), Go κ G T (pc0 + 1) Ls (.int (f x) :: r) → Go κ G T pc0 Ls (.int x :: r)) : Opn κ T := mkOp pc0 (fun Ls st => match st with | .int x :: r => some (pc0 + 1, Ls, .int (f x) :: r) | _ => none) (by
  intro Ls st b G h g
  split at h
  · cases h; exact hs _ _ _ _ g
  · cases h)
def oIneg (w : Ok κ T) (hd : decode κ.c.code pc0 = .ok (.ineg, 1)) : Opn κ T := oUn pc0 (fun x => -x) (fun _ _ _ _ g => Fx.via (fun _ => XS.ineg w.1 w.2 rfl hd rfl) g)
def oI2b (w : Ok κ T) (hd : decode κ.c.code pc0 = .ok (.i2b, 1)) : Opn κ T := oUn pc0 (fun x => x.toInt8.toInt32) (fun _ _ _ _ g => Fx.via (fun _ => XS.i2b w.1 w.2 rfl hd rfl) g)
def oI2c (w : Ok κ T) (hd : decode κ.c.code pc0 = .ok (.i2c, 1)) : Opn κ T := oUn pc0 (fun x => x.toUInt32.toUInt16.toUInt32.toInt32) (fun _ _ _ _ g => Fx.via (fun _ => XS.i2c w.1 w.2 rfl hd rfl) g)
def oI2s (w : Ok κ T) (hd : decode κ.c.code pc0 = .ok (.i2s, 1)) : Opn κ T := oUn pc0 (fun x => x.toInt16.toInt32) (fun _ _ _ _ g => Fx.via (fun _ => XS.i2s w.1 w.2 rfl hd rfl) g)
def oI2d (w : Ok κ T) (hd : decode κ.c.code pc0 = .ok (.i2d, 1)) : Opn κ T := mkOp pc0 (fun Ls st => match st with | .int x :: r => some (pc0 + 1, Ls, .double (FP.i2d x) :: r) | _ => none) (by
  intro Ls st b G h g
  split at h
  · cases h; exact Fx.via (fun _ => XS.i2dS w.1 w.2 rfl hd rfl rfl) g
  · cases h)
def oDup (w : Ok κ T) (hd : decode κ.c.code pc0 = .ok (.dup, 1)) : Opn κ T := mkOp pc0 (fun Ls st => match st with | .int x :: r => some (pc0 + 1, Ls, .int x :: .int x :: r) | .ref x :: r => some (pc0 + 1, Ls, .ref x :: .ref x :: r) | _ => none) (by
  intro Ls st b G h g
  split at h
  · cases h; exact Fx.via (fun _ => XS.dup w.1 w.2 rfl hd rfl rfl) g
  · cases h; exact Fx.via (fun _ => XS.dup w.1 w.2 rfl hd rfl rfl) g
  · cases h)
def oPop (w : Ok κ T) (hd : decode κ.c.code pc0 = .ok (.pop, 1)) : Opn κ T := mkOp pc0 (fun Ls st => match st with | .int x :: r => some (pc0 + 1, Ls, r) | .ref x :: r => some (pc0 + 1, Ls, r) | .null :: r => some (pc0 + 1, Ls, r) | _ => none) (by
  intro Ls st b G h g
  split at h
  · cases h; exact Fx.via (fun _ => XS.pop w.1 w.2 rfl hd rfl rfl) g
  · cases h; exact Fx.via (fun _ => XS.pop w.1 w.2 rfl hd rfl rfl) g
  · cases h; exact Fx.via (fun _ => XS.pop w.1 w.2 rfl hd rfl rfl) g
  · cases h)
def oGoto (w : Ok κ T) {o : Int} (pc' : Nat) (hd : decode κ.c.code pc0 = .ok (.goto o, 3)) (ho : 0 ≤ (pc0 : Int) + o := by decide) (hp : ((pc0 : Int) + o).toNat = pc' := by decide) : Opn κ T := mkOp pc0 (fun Ls st => some (pc', Ls, st)) (by
  intro Ls st b G h g; cases h; exact Fx.via (fun _ => XS.goto w.1 w.2 rfl rfl hd ho hp) g)
end Ops
section Branch
variable {κ : Cx} {G : Option Value → State → Prop} {T : State} {pc pc' : Nat} {Ls : Array Slot} {st : List Value} {x y : Int32} {o : Int}
theorem if_icmpG (w : Ok κ T) {cd : ClassFile.Cond} (hd : decode κ.c.code pc = .ok (.if_icmp cd o, 3)) (ho : 0 ≤ (pc : Int) + o) (hp : ((pc : Int) + o).toNat = pc') (hT : if_icmp.holds cd x y = true → Go κ G T pc' Ls st) (hF : if_icmp.holds cd x y = false → Go κ G T (pc + 3) Ls st) : Go κ G T pc Ls (.int y :: .int x :: st) := by
  cases hb : if_icmp.holds cd x y with
  | true => exact Fx.via (fun _ => XS.icmpYes w.1 w.2 rfl rfl hd rfl hb ho hp) (hT hb)
  | false => exact Fx.via (fun _ => XS.icmpNo w.1 w.2 rfl hd rfl hb) (hF hb)
theorem ifG (w : Ok κ T) {cd : ClassFile.Cond} (hd : decode κ.c.code pc = .ok (.ifCond cd o, 3)) (ho : 0 ≤ (pc : Int) + o) (hp : ((pc : Int) + o).toNat = pc') (hT : if_icmp.holds cd x 0 = true → Go κ G T pc' Ls st) (hF : if_icmp.holds cd x 0 = false → Go κ G T (pc + 3) Ls st) : Go κ G T pc Ls (.int x :: st) := by
  cases hb : if_icmp.holds cd x 0 with
  | true => exact Fx.via (fun _ => XS.ifYes w.1 w.2 rfl rfl hd rfl ((if0 cd x).trans hb) ho hp) (hT hb)
  | false => exact Fx.via (fun _ => XS.ifNo w.1 w.2 rfl hd rfl ((if0 cd x).trans hb)) (hF hb)
theorem h_eq {x y : Int32} : (if_icmp.holds .eq x y = true → x = y) ∧ (if_icmp.holds .eq x y = false → ¬ x = y) := ⟨fun h => Classical.byContradiction fun q => (by rw [(feq q).1] at h; cases h), fun h q => (by rw [(teq q).1] at h; cases h)⟩
theorem h_ne {x y : Int32} : (if_icmp.holds .ne x y = true → ¬ x = y) ∧ (if_icmp.holds .ne x y = false → x = y) := ⟨fun h q => (by rw [(teq q).2] at h; cases h), fun h => Classical.byContradiction fun q => (by rw [(feq q).2] at h; cases h)⟩
theorem h_lt {x y : Int32} : (if_icmp.holds .lt x y = true → x < y) ∧ (if_icmp.holds .lt x y = false → ¬ x < y) := ⟨fun h => Classical.byContradiction fun q => (by rw [(flt q).1] at h; cases h), fun h q => (by rw [(tlt q).1] at h; cases h)⟩
theorem h_ge {x y : Int32} : (if_icmp.holds .ge x y = true → ¬ x < y) ∧ (if_icmp.holds .ge x y = false → x < y) := ⟨fun h q => (by rw [(tlt q).2.1] at h; cases h), fun h => Classical.byContradiction fun q => (by rw [(flt q).2.1] at h; cases h)⟩
theorem h_gt {x y : Int32} : (if_icmp.holds .gt x y = true → y < x) ∧ (if_icmp.holds .gt x y = false → ¬ y < x) := ⟨fun h => Classical.byContradiction fun q => (by rw [(flt q).2.2.1] at h; cases h), fun h q => (by rw [(tlt q).2.2.1] at h; cases h)⟩
theorem h_le {x y : Int32} : (if_icmp.holds .le x y = true → ¬ y < x) ∧ (if_icmp.holds .le x y = false → y < x) := ⟨fun h q => (by rw [(tlt q).2.2.2] at h; cases h), fun h => Classical.byContradiction fun q => (by rw [(flt q).2.2.2] at h; cases h)⟩
theorem cEq (w : Ok κ T) (hd : decode κ.c.code pc = .ok (.if_icmp .eq o, 3)) (ho : 0 ≤ (pc : Int) + o) (hp : ((pc : Int) + o).toNat = pc') (hT : x = y → Go κ G T pc' Ls st) (hF : ¬ x = y → Go κ G T (pc + 3) Ls st) : Go κ G T pc Ls (.int y :: .int x :: st) := if_icmpG w hd ho hp (fun q => hT (h_eq.1 q)) (fun q => hF (h_eq.2 q))
theorem cNe (w : Ok κ T) (hd : decode κ.c.code pc = .ok (.if_icmp .ne o, 3)) (ho : 0 ≤ (pc : Int) + o) (hp : ((pc : Int) + o).toNat = pc') (hT : ¬ x = y → Go κ G T pc' Ls st) (hF : x = y → Go κ G T (pc + 3) Ls st) : Go κ G T pc Ls (.int y :: .int x :: st) := if_icmpG w hd ho hp (fun q => hT (h_ne.1 q)) (fun q => hF (h_ne.2 q))
theorem cLt (w : Ok κ T) (hd : decode κ.c.code pc = .ok (.if_icmp .lt o, 3)) (ho : 0 ≤ (pc : Int) + o) (hp : ((pc : Int) + o).toNat = pc') (hT : x < y → Go κ G T pc' Ls st) (hF : ¬ x < y → Go κ G T (pc + 3) Ls st) : Go κ G T pc Ls (.int y :: .int x :: st) := if_icmpG w hd ho hp (fun q => hT (h_lt.1 q)) (fun q => hF (h_lt.2 q))
theorem cGe (w : Ok κ T) (hd : decode κ.c.code pc = .ok (.if_icmp .ge o, 3)) (ho : 0 ≤ (pc : Int) + o) (hp : ((pc : Int) + o).toNat = pc') (hT : ¬ x < y → Go κ G T pc' Ls st) (hF : x < y → Go κ G T (pc + 3) Ls st) : Go κ G T pc Ls (.int y :: .int x :: st) := if_icmpG w hd ho hp (fun q => hT (h_ge.1 q)) (fun q => hF (h_ge.2 q))
theorem cGt (w : Ok κ T) (hd : decode κ.c.code pc = .ok (.if_icmp .gt o, 3)) (ho : 0 ≤ (pc : Int) + o) (hp : ((pc : Int) + o).toNat = pc') (hT : y < x → Go κ G T pc' Ls st) (hF : ¬ y < x → Go κ G T (pc + 3) Ls st) : Go κ G T pc Ls (.int y :: .int x :: st) := if_icmpG w hd ho hp (fun q => hT (h_gt.1 q)) (fun q => hF (h_gt.2 q))
theorem cLe (w : Ok κ T) (hd : decode κ.c.code pc = .ok (.if_icmp .le o, 3)) (ho : 0 ≤ (pc : Int) + o) (hp : ((pc : Int) + o).toNat = pc') (hT : ¬ y < x → Go κ G T pc' Ls st) (hF : y < x → Go κ G T (pc + 3) Ls st) : Go κ G T pc Ls (.int y :: .int x :: st) := if_icmpG w hd ho hp (fun q => hT (h_le.1 q)) (fun q => hF (h_le.2 q))
theorem zEq (w : Ok κ T) (hd : decode κ.c.code pc = .ok (.ifCond .eq o, 3)) (ho : 0 ≤ (pc : Int) + o) (hp : ((pc : Int) + o).toNat = pc') (hT : x = 0 → Go κ G T pc' Ls st) (hF : ¬ x = 0 → Go κ G T (pc + 3) Ls st) : Go κ G T pc Ls (.int x :: st) := ifG w hd ho hp (fun q => hT (h_eq.1 q)) (fun q => hF (h_eq.2 q))
theorem zNe (w : Ok κ T) (hd : decode κ.c.code pc = .ok (.ifCond .ne o, 3)) (ho : 0 ≤ (pc : Int) + o) (hp : ((pc : Int) + o).toNat = pc') (hT : ¬ x = 0 → Go κ G T pc' Ls st) (hF : x = 0 → Go κ G T (pc + 3) Ls st) : Go κ G T pc Ls (.int x :: st) := ifG w hd ho hp (fun q => hT (h_ne.1 q)) (fun q => hF (h_ne.2 q))
theorem zLt (w : Ok κ T) (hd : decode κ.c.code pc = .ok (.ifCond .lt o, 3)) (ho : 0 ≤ (pc : Int) + o) (hp : ((pc : Int) + o).toNat = pc') (hT : x < 0 → Go κ G T pc' Ls st) (hF : ¬ x < 0 → Go κ G T (pc + 3) Ls st) : Go κ G T pc Ls (.int x :: st) := ifG w hd ho hp (fun q => hT (h_lt.1 q)) (fun q => hF (h_lt.2 q))
theorem zGe (w : Ok κ T) (hd : decode κ.c.code pc = .ok (.ifCond .ge o, 3)) (ho : 0 ≤ (pc : Int) + o) (hp : ((pc : Int) + o).toNat = pc') (hT : ¬ x < 0 → Go κ G T pc' Ls st) (hF : x < 0 → Go κ G T (pc + 3) Ls st) : Go κ G T pc Ls (.int x :: st) := ifG w hd ho hp (fun q => hT (h_ge.1 q)) (fun q => hF (h_ge.2 q))
theorem zGt (w : Ok κ T) (hd : decode κ.c.code pc = .ok (.ifCond .gt o, 3)) (ho : 0 ≤ (pc : Int) + o) (hp : ((pc : Int) + o).toNat = pc') (hT : 0 < x → Go κ G T pc' Ls st) (hF : ¬ 0 < x → Go κ G T (pc + 3) Ls st) : Go κ G T pc Ls (.int x :: st) := ifG w hd ho hp (fun q => hT (h_gt.1 q)) (fun q => hF (h_gt.2 q))
theorem zLe (w : Ok κ T) (hd : decode κ.c.code pc = .ok (.ifCond .le o, 3)) (ho : 0 ≤ (pc : Int) + o) (hp : ((pc : Int) + o).toNat = pc') (hT : ¬ 0 < x → Go κ G T pc' Ls st) (hF : 0 < x → Go κ G T (pc + 3) Ls st) : Go κ G T pc Ls (.int x :: st) := ifG w hd ho hp (fun q => hT (h_le.1 q)) (fun q => hF (h_le.2 q))
theorem nnRef (w : Ok κ T) {a : Addr} (hd : decode κ.c.code pc = .ok (.ifnonnull o, 3)) (ho : 0 ≤ (pc : Int) + o) (hp : ((pc : Int) + o).toNat = pc') (g : Go κ G T pc' Ls st) : Go κ G T pc Ls (.ref a :: st) := Fx.via (fun _ => XT.nonnullYes w.1 w.2 rfl rfl hd rfl rfl (fun q => nomatch q) ho hp) g
theorem nnNull (w : Ok κ T) (hd : decode κ.c.code pc = .ok (.ifnonnull o, 3)) (g : Go κ G T (pc + 3) Ls st) : Go κ G T pc Ls (.null :: st) := Fx.via (fun _ => XT.nonnullNo w.1 w.2 rfl hd rfl rfl) g
theorem nuNull (w : Ok κ T) (hd : decode κ.c.code pc = .ok (.ifnull o, 3)) (ho : 0 ≤ (pc : Int) + o) (hp : ((pc : Int) + o).toNat = pc') (g : Go κ G T pc' Ls st) : Go κ G T pc Ls (.null :: st) := Fx.via (fun _ => XS.ifnullYes w.1 w.2 rfl rfl hd rfl ho hp) g
theorem nuRef (w : Ok κ T) {a : Addr} (hd : decode κ.c.code pc = .ok (.ifnull o, 3)) (g : Go κ G T (pc + 3) Ls st) : Go κ G T pc Ls (.ref a :: st) := Fx.via (fun _ => XS.ifnullNo w.1 w.2 rfl hd rfl) g
theorem aloadV (w : Ok κ T) {k : Nat} {v : Value} (hd : decode κ.c.code pc = .ok (.aload k, 2)) (hl : Ls[k]? = some (.val v)) (hv : v.isRef = true) (g : Go κ G T (pc + 2) Ls (v :: st)) : Go κ G T pc Ls st := Fx.via (fun _ => XS.aload w.1 w.2 rfl hd hl hv) g
theorem aloadNV (w : Ok κ T) {k : Fin 4} {v : Value} (hd : decode κ.c.code pc = .ok (.aload_n k, 1)) (hl : Ls[k.val]? = some (.val v)) (hv : v.isRef = true) (g : Go κ G T (pc + 1) Ls (v :: st)) : Go κ G T pc Ls st := Fx.via (fun _ => XS.aloadN w.1 w.2 rfl hd hl hv) g
theorem astoreV (w : Ok κ T) {k : Nat} {v : Value} {l' : Array Slot} (hd : decode κ.c.code pc = .ok (.astore k, 2)) (hv : v.isRef = true) (hl : storeLocals Ls k v = some l') (g : Go κ G T (pc + 2) l' st) : Go κ G T pc Ls (v :: st) := Fx.via (fun _ => XS.astore w.1 w.2 rfl hd rfl hv hl) g
theorem astoreNV (w : Ok κ T) {k : Fin 4} {v : Value} {l' : Array Slot} (hd : decode κ.c.code pc = .ok (.astore_n k, 1)) (hv : v.isRef = true) (hl : storeLocals Ls k.val v = some l') (g : Go κ G T (pc + 1) l' st) : Go κ G T pc Ls (v :: st) := Fx.via (fun _ => XS.astoreN w.1 w.2 rfl hd rfl hv hl) g
theorem istoreG (w : Ok κ T) {k : Nat} {o' : Slot} (hd : decode κ.c.code pc = .ok (.istore k, 2)) (hold : Ls[k]? = some o') (ho : One o') (g : Go κ G T (pc + 2) (Ls.setIfInBounds k (.val (.int x))) st) : Go κ G T pc Ls (.int x :: st) := Fx.via (fun _ => XS.istoreS w.1 w.2 rfl hd rfl hold ho) g
theorem istoreNG (w : Ok κ T) {k : Fin 4} {o' : Slot} (hd : decode κ.c.code pc = .ok (.istore_n k, 1)) (hold : Ls[k.val]? = some o') (ho : One o') (g : Go κ G T (pc + 1) (Ls.setIfInBounds k.val (.val (.int x))) st) : Go κ G T pc Ls (.int x :: st) := Fx.via (fun _ => XS.istoreNS w.1 w.2 rfl hd rfl hold ho) g
theorem astoreG (w : Ok κ T) {k : Nat} {o' : Slot} {a : Addr} (hd : decode κ.c.code pc = .ok (.astore k, 2)) (hold : Ls[k]? = some o') (ho : One o') (g : Go κ G T (pc + 2) (Ls.setIfInBounds k (.val (.ref a))) st) : Go κ G T pc Ls (.ref a :: st) := Fx.via (fun _ => XS.astoreS w.1 w.2 rfl hd rfl rfl rfl hold ho) g
end Branch
end Jvm.WK
namespace Jvm.WK
open Sem ClassFile Op Lib Jvm.Stand Jvm.Free Jvm.LawKit Jvm.RoadKit Bundle
theorem wd {L : List Jvm.Cond} {a0 : Array Value} {Z : State} (hw : ∀ d ∈ L, d.before a0 Z = true) (k : Nat) {d : Jvm.Cond} (h : L[k]? = some d) : d.before a0 Z = true := hw d (List.mem_of_getElem? h)
/-- an array of ints (or chars, bytes ..) with its values -/
def Ary (Z : State) (h : Heap) (a : Addr) (ty : FieldType) (vs : List Int32) : Prop :=
  ∃ c : Cell, Arr Z h a c ty ∧ c.slots.toList = vs.map Value.int ∧ vs.length < 2147483648 ∧ ∀ v ∈ vs, fits ty (.int v) = true
section AryFacts
variable {Z : State} {h h' : Heap} {a b : Addr} {ty : FieldType} {vs : List Int32} {ws : List Addr} {sl : Nat} {v : Value}
theorem Ary.lt (F : Ary Z h a ty vs) : a < h.size := by obtain ⟨c, A, -⟩ := F; exact A.lt
theorem Ary.ext (E : Ext h h') (F : Ary Z h a ty vs) : Ary Z h' a ty vs := by obtain ⟨c, A, r⟩ := F; exact ⟨c, A.ext E, r⟩
theorem Ary.other (W : Wr h h' b sl v) (F : Ary Z h a ty vs) (q : a ≠ b) : Ary Z h' a ty vs := by obtain ⟨c, A, r⟩ := F; exact ⟨c, A.other W q, r⟩
theorem Ary.keep (K : Keep h h' ws) (F : Ary Z h a ty vs) (q : a ∉ ws) : Ary Z h' a ty vs := by obtain ⟨c, A, r⟩ := F; exact ⟨c, ⟨K.2.1 a c A.1 q, A.2⟩, r⟩
theorem Ary.small (F : Ary Z h a ty vs) : vs.length < 2147483648 := by obtain ⟨c, A, r1, r2, -⟩ := F; exact r2
theorem Ary.fit (F : Ary Z h a ty vs) : ∀ v ∈ vs, fits ty (.int v) = true := by obtain ⟨c, A, r1, r2, r3⟩ := F; exact r3
theorem clamp_ofNat {i : Nat} (h : i < 2147483648) : (Int32.ofNat i).toNatClampNeg = i := by
  have h1 : (Int32.ofNat i).toInt = (i : Int) := Int32.toInt_ofNat_small (by omega)
  show (Int32.ofNat i).toInt.toNat = i
  rw [h1]; rfl
theorem nneg_ofNat {i : Nat} (h : i < 2147483648) : ¬ (Int32.ofNat i) < 0 := by
  have h1 : (Int32.ofNat i).toInt = (i : Int) := Int32.toInt_ofNat_small (by omega)
  rw [Int32.lt_iff_toInt_lt, h1]
  show ¬ ((i : Int) < 0)
  omega
theorem Ary.inb {c : Cell} {i : Nat} (hs : c.slots.toList = vs.map Value.int) (hl : vs.length < 2147483648) (hi : i < vs.length) : ¬ (Int32.ofNat i < 0 ∨ c.slots.size ≤ (Int32.ofNat i).toNatClampNeg) := by
  have hz : c.slots.size = vs.length := by
    have := congrArg List.length hs
    simpa using this
  rw [clamp_ofNat (by omega)]
  have := nneg_ofNat (i := i) (by omega)
  exact fun q => q.elim this (fun q => by omega)
theorem Ary.at {c : Cell} {i : Nat} (hs : c.slots.toList = vs.map Value.int) (hl : vs.length < 2147483648) (hi : i < vs.length) {x : Int32} (hx : vs[i]? = some x) : c.slots[(Int32.ofNat i).toNatClampNeg]? = some (.int x) := by
  rw [clamp_ofNat (by omega)]
  have : c.slots[i]? = c.slots.toList[i]? := by simp
  rw [this, hs]
  simp [hx]
theorem Ary.arv (F : Ary Z h a ty vs) : ∃ k, Arv Z h a k ty (Int32.ofNat vs.length) (vs.map Value.int) (.int 0) := by
  obtain ⟨c, A, r1, r2, r3⟩ := F
  have hz : c.slots.size = vs.length := by
    have := congrArg List.length r1
    simpa using this
  have H : Has c (vs.map Value.int) (.int 0) := fun k hk => by
    have : c.slots[k]? = c.slots.toList[k]? := by simp
    rw [this, r1]
    have hk' : k < vs.length := by omega
    simp [List.getD, hk']
  refine ⟨c.cls, c, A, rfl, by rw [hz, clamp_ofNat r2], nneg_ofNat r2, H, fun i hi => ?_⟩
  have hi' : i < vs.length := by omega
  simp only [List.getD, List.getElem?_map, List.getElem?_eq_getElem hi', Option.map_some, Option.getD_some]
  exact r3 _ (List.getElem_mem hi')
theorem Ary.of_arv {k : ClassId} {z : Int32} (hz : z.toNatClampNeg = vs.length) (F : Arv Z h a k ty z (vs.map Value.int) (.int 0)) : Ary Z h a ty vs := by
  obtain ⟨c, A, r1, r2, r3, H, r4⟩ := F
  have hs : c.slots.size = vs.length := r2.trans hz
  have hb := (back32 r3).2
  refine ⟨c, A, ?_, by omega, fun v hv => ?_⟩
  · apply List.ext_getElem?
    intro i
    by_cases hi : i < c.slots.size
    · have := H i hi
      have e : c.slots[i]? = c.slots.toList[i]? := by simp
      rw [← e, this]
      have hi' : i < vs.length := by omega
      simp [List.getD, hi']
    · rw [List.getElem?_eq_none (by simpa using Nat.le_of_not_lt hi), List.getElem?_eq_none (by simp; omega)]
  · obtain ⟨i, hi, rfl⟩ := List.getElem_of_mem hv
    have := r4 i (by omega)
    simpa [List.getD, hi] using this
theorem Ary.set {x : Int32} {i : Nat} (F : Ary Z h a ty vs) (hi : i < vs.length) (hx : fits ty (.int x) = true) (Wq : Wr h h' a (Int32.ofNat i).toNatClampNeg (.int x)) : Ary Z h' a ty (vs.set i x) := by
  obtain ⟨c, A, r1, r2, r3⟩ := F
  refine ⟨c.setSlot (Int32.ofNat i).toNatClampNeg (.int x), A.same Wq, ?_, by simpa using r2, fun v hv => ?_⟩
  · rw [clamp_ofNat (by omega)]
    simp [Cell.setSlot, r1, List.map_set]
  · rcases List.mem_or_eq_of_mem_set hv with q | q
    · exact r3 v q
    · rw [q]; exact hx
theorem Ary.new {k : ClassId} {z : Int32} {n : Nat} (A : Arr Z h a (newA k ty z) ty) (hn : z.toNatClampNeg = n) (hb : n < 2147483648) (hd : defaultValue ty = .int 0) (hf : fits ty (.int 0) = true) : Ary Z h a ty (List.replicate n 0) := by
  refine ⟨_, A, by simp [newA, hn, hd], by simpa using hb, fun v hv => ?_⟩
  rw [(List.mem_replicate.mp hv).2]; exact hf
theorem Ary.ne_ty {ty' : FieldType} {vs' : List Int32} (F : Ary Z h a ty vs) (F' : Ary Z h b ty' vs') (q : ty ≠ ty') : a ≠ b := fun e => by
  subst e
  obtain ⟨c, ⟨A1, ⟨-, k, A2, comp, A3⟩, -⟩, -⟩ := F
  obtain ⟨c', ⟨B1, ⟨-, k', B2, comp', B3⟩, -⟩, -⟩ := F'
  cases A1.symm.trans B1
  cases A2.symm.trans B2
  rw [A3] at B3
  cases B3; exact q rfl
theorem Ary.safe {EL : List (String × Nat)} {vm : Vm} (hal : Z.vm.Alike vm) (F : Ary Z h a ty vs) (q : ty ≠ .byte) : Safe Z EL vm h a := by obtain ⟨c, A, -⟩ := F; exact Safe.arr hal A q
end AryFacts
theorem safe_nil {Z : State} {vm : Vm} {h : Heap} {x : Addr} : Safe Z [] vm h x := fun B => by obtain ⟨p, hp, -⟩ := B; cases hp
/-- where the walk stands: s the invocation's start, vm the tables of its last interning, Z the case's start -/
def W (κ : Cx) (l : Launch) (R : Room) (Z : State) (EL : List (String × Nat)) (own nm : String) (mx : Nat) (rt : Option FieldType) (vm : Vm) (T : State) (h : Heap) (k n : Nat) : Prop :=
  (κ.p.tables.exec = Jvm.exec ∧ κ.c.maxLocals = mx ∧ κ.M.sig.returnType = rt ∧ κ.M.locks = false ∧ κ.M.name = nm ∧ ∃ a0, EW Z a0 EL) ∧
  ∃ (locs : List Loc) (k0 : Nat), Stand κ.p l κ.e R (κ.s.setVm vm) κ.m κ.a κ.b κ.M κ.c T locs k n ∧ T.heap = h ∧ κ.s.Since vm k0 ∧ k0 ≤ h.size ∧ Z.Warmed39 vm ∧ vm.findClass own = some κ.m.cls ∧ Fr Z.heap.size locs ∧ CHr Z EL κ.s.vm κ.s.heap vm h
/-- what an invocation owes at its end -/
def GQ (κ : Cx) (Z : State) (EL : List (String × Nat)) (rm : Room) (Q : Option Value → Heap → (Addr → Prop) → Prop) : Option Value → State → Prop :=
  fun v B => ∃ L, (Q v B.heap (Safe Z EL B.vm B.heap) ∧ Fr Z.heap.size L) ∧ CHr Z EL κ.s.vm κ.s.heap B.vm B.heap ∧ ReturnedEndW κ.s (.returned v) B L rm.cells rm.slots
/-- a contract -/
def Ctr (l : Launch) (Z : State) (EL : List (String × Nat)) (y : MethodName) (bytes : ByteArray) (maxL : Nat) (ret : Option FieldType) (ws : List Jvm.Cond) (rm : Room) (sf : List Addr) (as' : Array Value) (h : Heap) (Q : Option Value → Heap → (Addr → Prop) → Prop) : Prop :=
  MetFree l y (head1 (Jvm.Cond.code y bytes maxL ret :: ws) rm) (fun a U => a = as' ∧ Z.Warmed39 U.vm ∧ U.heap = h ∧ CHv Z EL U.vm h ∧ ∀ x ∈ sf, Safe Z EL U.vm h x) (fun _ _ _ _ _ => True) (fun _ U o U' => ∃ v L, o = .returned v ∧ (Q v U'.heap (Safe Z EL U'.vm U'.heap) ∧ Fr Z.heap.size L) ∧ CHr Z EL U.vm U.heap U'.vm U'.heap ∧ ReturnedEndW U o U' L rm.cells rm.slots)
theorem enter {l : Launch} {Z : State} {EL : List (String × Nat)} {y : MethodName} {bytes : ByteArray} {maxL : Nat} {ret : Option FieldType} {ws : List Jvm.Cond} {rm : Room} {sf : List Addr} {as' : Array Value} {h : Heap} {Q : Option Value → Heap → (Addr → Prop) → Prop} {a0 : Array Value} (hpl : plainName y.cls = true) (hEL : EW Z a0 EL) {Ls : Array Slot} (hef : ∀ m, entryFrame m as' maxL = mkF m 0 Ls [])
    (body : ∀ (κ : Cx) (vm : Vm) (T : State), κ.c.code = bytes → κ.s.heap = h → W κ l rm Z EL y.cls y.name maxL ret vm T h 0 0 → (∀ x ∈ sf, Safe Z EL vm h x) → Go κ (GQ κ Z EL rm Q) T 0 Ls []) : Ctr l Z EL y bytes maxL ret ws rm sf as' h Q := by
  refine MetFree.of_bodySF (plainFor_of_name hpl) hisR ?_
  intro p e s m args below meth c s₁ Bd hml hP hK
  obtain ⟨rfl, hZ, hh, hC, hSf⟩ := hP
  have hown : s.vm.findClass y.cls = some m.cls := findClass_of_methodNamed Bd.named
  have hnm := (name_of_methodNamed Bd.named Bd.method).1
  have X0 : Stand p l e rm s m args below meth c s₁ [] 0 0 := Stand.of_body Bd
  have e0 : s₁.heap = h := by rw [← hh, Bd.state]; rfl
  have w : W (p, e, s, m, args, below, meth, c) l rm Z EL y.cls y.name maxL ret s.vm s₁ h 0 0 :=
    ⟨⟨Bd.exec, hml, Bd.returns, Bd.notSynchronized, hnm, a0, hEL⟩, [], s.heap.size, X0, e0, (State.WarmedH.refl s).since _, by rw [hh]; exact Nat.le_refl _, hZ, hown, Fr.nil _, by rw [hh]; exact CHr.refl hC⟩
  obtain ⟨v, B, h1, h2, h3, L, h4, h5, h6⟩ := body (p, e, s, m, args, below, meth, c) s.vm s₁ Bd.bytes hh w hSf
  refine ⟨B, .returned v, castTop (hef m) h1, h2, h3, v, L, rfl, h4, h5, h6⟩
section Laws
variable {κ : Cx} {l : Launch} {R : Room} {Z : State} {EL : List (String × Nat)} {own nm : String} {mx : Nat} {rt : Option FieldType} {vm : Vm} {T : State} {h : Heap} {k n : Nat} {G : Option Value → State → Prop} {a0 : Array Value} {pc : Nat} {Ls : Array Slot} {st : List Value}
theorem W.ok (w : W κ l R Z EL own nm mx rt vm T h k n) : Ok κ T := by obtain ⟨w1, _, _, X, -⟩ := w; exact ⟨X.here, w1.1⟩
theorem W.chv (w : W κ l R Z EL own nm mx rt vm T h k n) : CHv Z EL vm h := by obtain ⟨w1, _, _, X, -, -, -, -, -, -, C⟩ := w; exact C.1
theorem W.warm (w : W κ l R Z EL own nm mx rt vm T h k n) : Z.Warmed39 vm := by obtain ⟨w1, _, _, X, -, -, -, hZ, -⟩ := w; exact hZ
theorem W.alike (w : W κ l R Z EL own nm mx rt vm T h k n) : Z.vm.Alike vm := w.warm.alike
theorem W.mono (w : W κ l R Z EL own nm mx rt vm T h k n) {k' n' : Nat} (hk : k ≤ k') (hn : n ≤ n') : W κ l R Z EL own nm mx rt vm T h k' n' := by
  obtain ⟨w1, L, k0, X, r⟩ := w; exact ⟨w1, L, k0, X.mono hk hn, r⟩
theorem W.heap (w : W κ l R Z EL own nm mx rt vm T h k n) : T.heap = h := by obtain ⟨w1, _, _, X, e, -⟩ := w; exact e
/-- all that stood at the case's start stands as it was -/
theorem W.old (w : W κ l R Z EL own nm mx rt vm T h k n) (o : Ext Z.heap κ.s.heap) : Ext Z.heap h := by
  obtain ⟨w1, L, k0, X, e, -, -, -, -, N, -⟩ := w
  subst e
  refine ⟨Nat.le_trans o.1 X.same.2.1, fun b cl hb => ?_⟩
  obtain ⟨c', h1, h2, -, h4⟩ := X.same.2.2.2.2.2 b cl (o.2 _ _ hb)
  have hlt := (Array.getElem?_eq_some_iff.mp hb).1
  have hsl : c'.slots = cl.slots := Array.ext_getElem? fun i => h4 i fun hm => absurd (N _ hm) (Nat.not_le.mpr hlt)
  have hcc : c' = cl := by rw [h2, hsl]
  rw [← hcc]; exact h1
/-- a step that keeps vm: the heap only grows -/
theorem W.grow {T' : State} {h' : Heap} {k' n' : Nat} (w : W κ l R Z EL own nm mx rt vm T h k n) (E : Ext h h') (eT : T'.heap = h') (hX : ∀ locs, Stand κ.p l κ.e R (κ.s.setVm vm) κ.m κ.a κ.b κ.M κ.c T locs k n → Stand κ.p l κ.e R (κ.s.setVm vm) κ.m κ.a κ.b κ.M κ.c T' locs k' n') : W κ l R Z EL own nm mx rt vm T' h' k' n' := by
  obtain ⟨w1, L, k0, X, e, hS, hk, hZ, ho, N, C⟩ := w
  exact ⟨w1, L, k0, hX L X, eT, hS, Nat.le_trans hk E.1, hZ, ho, N, C.trans (CHr.ext E C.1)⟩
theorem W.wrote {T' : State} {h' : Heap} {a : Addr} {sl : Nat} {v : Value} {locs : List Loc} {k0 : Nat} (w : W κ l R Z EL own nm mx rt vm T h k n) (hS : κ.s.Since vm k0) (hk : k0 ≤ h.size) (N : Fr Z.heap.size locs) (X : Stand κ.p l κ.e R (κ.s.setVm vm) κ.m κ.a κ.b κ.M κ.c T' (locs ++ [⟨a, sl⟩]) k n) (eT : T'.heap = h') (Wq : Wr h h' a sl v) (S : Safe Z EL vm h a) (ha : Z.heap.size ≤ a) : W κ l R Z EL own nm mx rt vm T' h' k n := by
  obtain ⟨w1, -, -, -, -, -, -, hZ, ho, -, C⟩ := w
  exact ⟨w1, _, k0, X, eT, hS, by rw [Wq.size]; exact hk, hZ, ho, Fr.snoc X N ha, C.trans (CHr.wr Wq S C.1)⟩
theorem W.new (w : W κ l R Z EL own nm mx rt vm T h k n) {C : String} {index sz : Nat} (w1 : (Cond.classLink own index C).before a0 Z = true) (w2 : (Cond.instantiable C sz).before a0 Z = true) (w3 : (Cond.initialized C).before a0 Z = true)
    (hd : decode κ.c.code pc = .ok (.new index, 3)) (hc : k + 1 ≤ R.cells) (hl : n + sz ≤ R.slots)
    (g : ∀ (T' : State) (h' : Heap) (x : Addr), W κ l R Z EL own nm mx rt vm T' h' (k + 1) (n + sz) → x = h.size → Ext h h' → Exa Z h' x C → (∀ {O nm' d : String} {ty : FieldType}, Laid Z a0 C O nm' d → parseFieldDescriptor d = some ty → Fld Z h' x O nm' d (defaultValue ty)) → Safe Z EL vm h' x → Go κ G T' (pc + 3) Ls (.ref x :: st)) : Go κ G T pc Ls st := by
  have w0 := w
  obtain ⟨q1, L, k0, X, e, hS, hk, hZ, ho, N, CC⟩ := w
  obtain ⟨T', h', X', e', E, A, D, -, stp⟩ := newO X q1.1 hZ ho w1 w2 w3 e (g := mkF κ.m pc Ls st) rfl hd hc hl
  exact Fx.via stp (g T' h' h.size ⟨q1, L, k0, X', e', hS, Nat.le_trans hk E.1, hZ, ho, N, CC.trans (CHr.ext E CC.1)⟩ rfl E A D (Safe.ext E w0.chv (Safe.new (Nat.le_refl _))))
theorem W.newarr (w : W κ l R Z EL own nm mx rt vm T h k n) {aty : ArrayType} (w1 : (Cond.arrayClass (newarray.typeOf aty)).before a0 Z = true) {z : Int32} {c : Nat} (hd : decode κ.c.code pc = .ok (.newarray aty, 2)) (hn : ¬ z < 0) (hz : z.toNatClampNeg = c) {cap : Nat} (hcap : c ≤ cap) (hb : cap * 8 ≤ 536870912) (hc : k + 1 ≤ R.cells) (hl : n + cap ≤ R.slots) (hdv : defaultValue (newarray.typeOf aty) = .int 0) (hf : fits (newarray.typeOf aty) (.int 0) = true)
    (g : ∀ (T' : State) (h' : Heap) (x : Addr), W κ l R Z EL own nm mx rt vm T' h' (k + 1) (n + cap) → x = h.size → Ext h h' → Ary Z h' x (newarray.typeOf aty) (List.replicate c 0) → Safe Z EL vm h' x → Go κ G T' (pc + 2) Ls (.ref x :: st)) : Go κ G T pc Ls (.int z :: st) := by
  have w0 := w
  obtain ⟨q1, L, k0, X, e, hS, hk, hZ, ho, N, CC⟩ := w
  obtain ⟨T', h', cA, X', e', E, A, stp⟩ := newP X q1.1 hZ w1 e (g := mkF κ.m pc Ls (.int z :: st)) rfl hd rfl hn (by rw [hz]; exact hcap) hb hc hl
  exact Fx.via stp (g T' h' h.size ⟨q1, L, k0, X', e', hS, Nat.le_trans hk E.1, hZ, ho, N, CC.trans (CHr.ext E CC.1)⟩ rfl E (Ary.new A hz (by omega) hdv hf) (Safe.ext E w0.chv (Safe.new (Nat.le_refl _))))
theorem W.get (w : W κ l R Z EL own nm mx rt vm T h k n) {O f d : String} {index : Nat} (w1 : (Cond.fieldLink own index O f d).before a0 Z = true) {a : Addr} {v : Value} (F : Fld Z h a O f d v) (hd : decode κ.c.code pc = .ok (.getfield index, 3))
    (g : ∀ T' : State, W κ l R Z EL own nm mx rt vm T' h k n → Go κ G T' (pc + 3) Ls (v :: st)) : Go κ G T pc Ls (.ref a :: st) := by
  obtain ⟨q1, L, k0, X, e, hS, hk, hZ, ho, N, CC⟩ := w
  obtain ⟨T', X', e', stp⟩ := getF X q1.1 hZ ho (host := "") (Or.inl w1) Via.refl e F (g := mkF κ.m pc Ls (.ref a :: st)) rfl rfl hd
  exact Fx.via stp (g T' ⟨q1, L, k0, X', e', hS, hk, hZ, ho, N, CC⟩)
theorem W.gets (w : W κ l R Z EL own nm mx rt vm T h k n) {O f d : String} {index : Nat} (w1 : (Cond.fieldLink own index O f d).before a0 Z = true) {v : Value} (F : Sta Z h O f d v) (hd : decode κ.c.code pc = .ok (.getstatic index, 3))
    (g : ∀ T' : State, W κ l R Z EL own nm mx rt vm T' h k n → Go κ G T' (pc + 3) Ls (v :: st)) : Go κ G T pc Ls st := by
  obtain ⟨q1, L, k0, X, e, hS, hk, hZ, ho, N, CC⟩ := w
  obtain ⟨T', X', e', stp⟩ := getS X q1.1 hZ ho (host := "") w1 Via.refl e F (g := mkF κ.m pc Ls st) rfl hd
  exact Fx.via stp (g T' ⟨q1, L, k0, X', e', hS, hk, hZ, ho, N, CC⟩)
theorem W.put (w : W κ l R Z EL own nm mx rt vm T h k n) {O f d C : String} {index kk : Nat} {ty : FieldType} (w1 : (Cond.fieldLink own index O f d).before a0 Z = true) {a : Addr} {v old : Value} (F : Fld Z h a O f d old) (E : Exa Z h a C) (Lw : (Cond.lays C O f d).before a0 Z = true ∨ ((Cond.laysFinal C O f d).before a0 Z = true ∧ own = O ∧ nm = "<init>")) (wi : (Cond.instantiable C kk).before a0 Z = true)
    (hty : parseFieldDescriptor d = some ty) (hn : narrow ty v = v) (hf : fits ty v = true) (S : Safe Z EL vm h a) (ha : Z.heap.size ≤ a) (hd : decode κ.c.code pc = .ok (.putfield index, 3))
    (g : ∀ (T' : State) (h' : Heap), W κ l R Z EL own nm mx rt vm T' h' k n → Wr h h' a (RoadKit.slotOf Z O f d) v → Safe Z EL vm h' a → Go κ G T' (pc + 3) Ls st) : Go κ G T pc Ls (v :: .ref a :: st) := by
  have w0 := w
  obtain ⟨q1, L, k0, X, e, hS, hk, hZ, ho, N, CC⟩ := w
  obtain ⟨T', h', X', e', Wq, stp⟩ := putF X q1.1 hZ ho (host := "") (Or.inl w1) Via.refl e F E (Lw.imp id fun q => ⟨q.1, q.2.1, by rw [q1.2.2.2.2.1]; exact q.2.2⟩) wi hty hn hf (g := mkF κ.m pc Ls (v :: .ref a :: st)) rfl rfl hd
  exact Fx.via stp (g T' h' (w0.wrote hS hk N X' e' Wq S ha) Wq (Safe.wr Wq S w0.chv S))
theorem W.cst (w : W κ l R Z EL own nm mx rt vm T h k n) {a : Addr} {vs : List Int32} (A : Ary Z h a .char vs) {i : Nat} {j x x' : Int32} (hj : j = Int32.ofNat i) (hi : i < vs.length) (hx : nar .char x = x') (hf : fits .char (.int x') = true) (ha : Z.heap.size ≤ a) (hd : decode κ.c.code pc = .ok (.castore, 1))
    (g : ∀ (T' : State) (h' : Heap), W κ l R Z EL own nm mx rt vm T' h' k n → (∃ sl v, Wr h h' a sl v) → Ary Z h' a .char (vs.set i x') → Go κ G T' (pc + 1) Ls st) : Go κ G T pc Ls (.int x :: .int j :: .ref a :: st) := by
  have w0 := w
  have A0 := A
  subst hj hx
  obtain ⟨q1, L, k0, X, e, hS, hk, hZ, ho, N, CC⟩ := w
  obtain ⟨c, A1, r1, r2, -⟩ := A
  obtain ⟨T', h', X', e', Wq, stp⟩ := stC X q1.1 hZ e A1 (Ary.inb r1 r2 hi) (g := mkF κ.m pc Ls (.int x :: .int (Int32.ofNat i) :: .ref a :: st)) rfl rfl hd
  exact Fx.via stp (g T' h' (w0.wrote hS hk N X' e' Wq (A0.safe w0.alike (by decide)) ha) ⟨_, _, Wq⟩ (A0.set hi hf Wq))
theorem W.bst (w : W κ l R Z EL own nm mx rt vm T h k n) {a : Addr} {vs : List Int32} (A : Ary Z h a .byte vs) {i : Nat} {j x x' : Int32} (hj : j = Int32.ofNat i) (hi : i < vs.length) (hx : nar .byte x = x') (hf : fits .byte (.int x') = true) (S : Safe Z EL vm h a) (ha : Z.heap.size ≤ a) (hd : decode κ.c.code pc = .ok (.bastore, 1))
    (g : ∀ (T' : State) (h' : Heap), W κ l R Z EL own nm mx rt vm T' h' k n → (∃ sl v, Wr h h' a sl v) → Ary Z h' a .byte (vs.set i x') → Safe Z EL vm h' a → Go κ G T' (pc + 1) Ls st) : Go κ G T pc Ls (.int x :: .int j :: .ref a :: st) := by
  have w0 := w
  have A0 := A
  subst hj hx
  obtain ⟨q1, L, k0, X, e, hS, hk, hZ, ho, N, CC⟩ := w
  obtain ⟨c, A1, r1, r2, -⟩ := A
  obtain ⟨T', h', X', e', Wq, stp⟩ := stB X q1.1 hZ e A1 (Ary.inb r1 r2 hi) (g := mkF κ.m pc Ls (.int x :: .int (Int32.ofNat i) :: .ref a :: st)) rfl rfl hd
  exact Fx.via stp (g T' h' (w0.wrote hS hk N X' e' Wq S ha) ⟨_, _, Wq⟩ (A0.set hi hf Wq) (Safe.wr Wq S w0.chv S))
theorem W.ist (w : W κ l R Z EL own nm mx rt vm T h k n) {a : Addr} {vs : List Int32} (A : Ary Z h a .int vs) {i : Nat} {j x : Int32} (hj : j = Int32.ofNat i) (hi : i < vs.length) (ha : Z.heap.size ≤ a) (hd : decode κ.c.code pc = .ok (.iastore, 1))
    (g : ∀ (T' : State) (h' : Heap), W κ l R Z EL own nm mx rt vm T' h' k n → (∃ sl v, Wr h h' a sl v) → Ary Z h' a .int (vs.set i x) → Go κ G T' (pc + 1) Ls st) : Go κ G T pc Ls (.int x :: .int j :: .ref a :: st) := by
  have w0 := w
  have A0 := A
  subst hj
  obtain ⟨q1, L, k0, X, e, hS, hk, hZ, ho, N, CC⟩ := w
  obtain ⟨c, A1, r1, r2, -⟩ := A
  obtain ⟨T', h', X', e', Wq, stp⟩ := stI X q1.1 hZ e A1 (Ary.inb r1 r2 hi) (g := mkF κ.m pc Ls (.int x :: .int (Int32.ofNat i) :: .ref a :: st)) rfl rfl hd
  exact Fx.via stp (g T' h' (w0.wrote hS hk N X' e' Wq (A0.safe w0.alike (by decide)) ha) ⟨_, _, Wq⟩ (A0.set hi rfl Wq))
theorem W.len (w : W κ l R Z EL own nm mx rt vm T h k n) {a : Addr} {ty : FieldType} {vs : List Int32} (A : Ary Z h a ty vs) (hd : decode κ.c.code pc = .ok (.arraylength, 1)) (g : Go κ G T (pc + 1) Ls (.int (Int32.ofNat vs.length) :: st)) : Go κ G T pc Ls (.ref a :: st) := by
  obtain ⟨q1, L, k0, X, e, hS, hk, hZ, ho, N, CC⟩ := w
  obtain ⟨c, A1, r1, r2, -⟩ := A
  have hz : c.slots.size = vs.length := by
    have := congrArg List.length r1
    simpa using this
  refine Fx.via (fun t z => X.arraylength q1.1 (cell := c) (by rw [e]; exact A1.1) (State.isArrayOf_alike hZ.alike A1.2.1) (g := mkF κ.m pc Ls (.ref a :: st)) rfl rfl hd t ?_) g
  rw [hz]; exact z
theorem W.cld (w : W κ l R Z EL own nm mx rt vm T h k n) {a : Addr} {vs : List Int32} (A : Ary Z h a .char vs) {i : Nat} {j x : Int32} (hj : j = Int32.ofNat i) (hx : vs[i]? = some x) (hd : decode κ.c.code pc = .ok (.caload, 1)) (g : Go κ G T (pc + 1) Ls (.int x :: st)) : Go κ G T pc Ls (.int j :: .ref a :: st) := by
  subst hj
  obtain ⟨q1, L, k0, X, e, hS, hk, hZ, ho, N, CC⟩ := w
  obtain ⟨c, A1, r1, r2, -⟩ := A
  have hi : i < vs.length := (List.getElem?_eq_some_iff.mp hx).1
  exact Fx.via (fun t z => X.caload q1.1 (cell := c) (by rw [e]; exact A1.1) (State.isArrayOf_alike hZ.alike A1.2.1) A1.2.2 (Ary.inb r1 r2 hi) (Ary.at r1 r2 hi hx) (g := mkF κ.m pc Ls (.int (Int32.ofNat i) :: .ref a :: st)) rfl rfl hd t z) g
theorem W.bld (w : W κ l R Z EL own nm mx rt vm T h k n) {a : Addr} {vs : List Int32} (A : Ary Z h a .byte vs) {i : Nat} {j x : Int32} (hj : j = Int32.ofNat i) (hx : vs[i]? = some x) (hd : decode κ.c.code pc = .ok (.baload, 1)) (g : Go κ G T (pc + 1) Ls (.int x :: st)) : Go κ G T pc Ls (.int j :: .ref a :: st) := by
  subst hj
  obtain ⟨q1, L, k0, X, e, hS, hk, hZ, ho, N, CC⟩ := w
  obtain ⟨c, A1, r1, r2, -⟩ := A
  have hi : i < vs.length := (List.getElem?_eq_some_iff.mp hx).1
  exact Fx.via (fun t z => X.baloadBytes q1.1 (cell := c) (by rw [e]; exact A1.1) (State.isArrayOf_alike hZ.alike A1.2.1) A1.2.2 (Ary.inb r1 r2 hi) (Ary.at r1 r2 hi hx) (g := mkF κ.m pc Ls (.int (Int32.ofNat i) :: .ref a :: st)) rfl rfl hd t z) g
theorem W.ild (w : W κ l R Z EL own nm mx rt vm T h k n) {a : Addr} {vs : List Int32} (A : Ary Z h a .int vs) {i : Nat} {j x : Int32} (hj : j = Int32.ofNat i) (hx : vs[i]? = some x) (hd : decode κ.c.code pc = .ok (.iaload, 1)) (g : Go κ G T (pc + 1) Ls (.int x :: st)) : Go κ G T pc Ls (.int j :: .ref a :: st) := by
  subst hj
  obtain ⟨q1, L, k0, X, e, hS, hk, hZ, ho, N, CC⟩ := w
  obtain ⟨c, A1, r1, r2, -⟩ := A
  have hi : i < vs.length := (List.getElem?_eq_some_iff.mp hx).1
  exact Fx.via (fun t z => X.iaload q1.1 (cell := c) (by rw [e]; exact A1.1) (State.isArrayOf_alike hZ.alike A1.2.1) A1.2.2 (Ary.inb r1 r2 hi) (Ary.at r1 r2 hi hx) (g := mkF κ.m pc Ls (.int (Int32.ofNat i) :: .ref a :: st)) rfl rfl hd t z) g
theorem W.ldcI (w : W κ l R Z EL own nm mx rt vm T h k n) {index : Nat} {v : Int32} (w1 : (Cond.constant own index v).before a0 Z = true) (hd : decode κ.c.code pc = .ok (.ldc index, 2)) (g : Go κ G T (pc + 2) Ls (.int v :: st)) : Go κ G T pc Ls st := by
  obtain ⟨q1, L, k0, X, e, hS, hk, hZ, ho, N, CC⟩ := w
  exact Fx.via (fun t z => Stand.ldcI X q1.1 ho (mv (s := κ.s.setVm vm) hZ w1) (g := mkF κ.m pc Ls st) rfl hd z) g
theorem W.ldcO (w : W κ l R Z EL own nm mx rt vm T h k n) {text : String} {index : Nat} (w1 : (Cond.stringLink own index text).before a0 Z = true) (wS : ∀ a ∈ Bundle.stringAtoms, a.before a0 Z = true) (hEL : EW Z a0 EL) (hd : decode κ.c.code pc = .ok (.ldc index, 2)) {c : Nat} (hn : 4 * text.toList.length ≤ c) (hbig : c ≤ 536870912) (hc : k + 2 ≤ R.cells) (hl : n + (c + 4) ≤ R.slots)
    (g : ∀ (vm' : Vm) (T' : State) (h' : Heap) (a : Addr), W κ l R Z EL own nm mx rt vm' T' h' (k + 2) (n + (c + 4)) → Ext h h' → CHr Z EL vm h vm' h' → Go κ G T' (pc + 2) Ls (.ref a :: st)) : Go κ G T pc Ls st := by
  obtain ⟨q1, L, k0, X, e, hS, hk, hZ, ho, N, CC⟩ := w
  obtain ⟨a, T', h', k1, X', e', E, hS', hk', hW, hf, C', -, stp⟩ := ldcOH X q1.1 hZ ho w1 wS e hS hk hEL CC.1 (g := mkF κ.m pc Ls st) rfl hd hn hbig hc hl
  exact Fx.via stp (g T'.vm T' h' a ⟨q1, L, k1, X', e', hS', hk', hW, hf, N, CC.trans C'⟩ E C')
theorem W.ldcC (w : W κ l R Z EL own nm mx rt vm T h k n) {text : String} {index : Nat} (w1 : (Cond.stringLink own index text).before a0 Z = true) (wS : ∀ a ∈ Bundle.stringAtoms, a.before a0 Z = true) (hEL : EW Z a0 EL) (hmem : (own, index) ∈ EL) {vs : List Int32} (ht : (∀ c ∈ text.toList, c.toNat < 256) ∧ text.toList.map (fun c => Value.int (Jvm.Lit.byteI c.toNat.toUInt16)) = vs.map Value.int) (hlen : vs.length < 2147483648) (hd : decode κ.c.code pc = .ok (.ldc index, 2)) {c : Nat} (hn : 4 * text.toList.length ≤ c) (hbig : c ≤ 536870912) (hc : k + 2 ≤ R.cells) (hl : n + (c + 4) ≤ R.slots)
    (g : ∀ (vm' : Vm) (T' : State) (h' : Heap) (a b : Addr), W κ l R Z EL own nm mx rt vm' T' h' (k + 2) (n + (c + 4)) → Ext h h' → CHr Z EL vm h vm' h' → Exa Z h' a "java/lang/String" → Fld Z h' a "java/lang/String" "coder" "B" (.int 0) → Fld Z h' a "java/lang/String" "value" "[B" (.ref b) → Ary Z h' b .byte vs → (∀ x, Safe Z EL vm' h' x → x ≠ a ∧ x ≠ b) → Go κ G T' (pc + 2) Ls (.ref a :: st)) : Go κ G T pc Ls st := by
  obtain ⟨q1, L, k0, X, e, hS, hk, hZ, ho, N, CC⟩ := w
  obtain ⟨a, T', h', k1, b, kk, X', e', E, hS', hk', hW, hf, F1, F2, F3, F4, -, -, C', -, F5, stp⟩ := ldcCH X q1.1 hZ ho w1 wS e hS hk hEL hmem CC.1 ht (z := Int32.ofNat vs.length) (nneg_ofNat hlen) (by rw [clamp_ofNat hlen]; simp) (g := mkF κ.m pc Ls st) rfl hd hn hbig hc hl
  exact Fx.via stp (g T'.vm T' h' a b ⟨q1, L, k1, X', e', hS', hk', hW, hf, N, CC.trans C'⟩ E C' F1 F2 F3 (Ary.of_arv (by rw [clamp_ofNat hlen]) F4) F5)
theorem W.initO (w : W κ l R Z EL own nm mx rt vm T h k n) {idx : Nat} (w1 : (Cond.methodLink own idx Lib.objectInit).before a0 Z = true) (w2 : (Cond.instanceMethod Lib.objectInit).before a0 Z = true) (w3 : (Cond.code Lib.objectInit ⟨#[0xb1]⟩ 1 none).before a0 Z = true) {a : Addr} (hsz : Ls.size = mx) (hd : decode κ.c.code pc = .ok (.invokespecial idx, 3)) (hf : 1 ≤ R.frames) {Wd : Nat} (hW : (st.map fun v => v.category).sum ≤ Wd) (hl : Wd + 12 ≤ R.locals)
    (g : ∀ T' : State, W κ l R Z EL own nm mx rt vm T' h k n → Go κ G T' (pc + 3) Ls st) : Go κ G T pc Ls (.ref a :: st) := by
  obtain ⟨q1, L, k0, X, e, hS, hk, hZ, ho, N, CC⟩ := w
  obtain ⟨T', X', e', stp⟩ := RoadKit.initO X q1.1 hZ ho w1 w2 w3 e (g := mkF κ.m pc Ls (.ref a :: st)) rfl (by rw [q1.2.1]; exact hsz) rfl hd hf (W := Wd) (by show 2 * 0 + _ ≤ _; omega) hl
  exact Fx.via stp (g T' ⟨q1, L, k0, X', e', hS, hk, hZ, ho, N, CC⟩)
/-- what a call asks of its callee -/
abbrev BB (κ : Cx) (l : Launch) (R : Room) (Z : State) (EL : List (String × Nat)) (vm : Vm) (h : Heap) (y : MethodName) (len Wd : Nat) (as' : Array Value) (rc rs : Nat) (Q : Option Value → Heap → (Addr → Prop) → Prop) : Prop :=
  BackS l R κ.p κ.e κ.b (κ.s.setVm vm) κ.a y len Wd (fun A a => a = as' ∧ A.U.heap = h ∧ A.cells + rc ≤ R.cells ∧ A.slots + rs ≤ R.slots)
      (fun A _ v B => ∃ L, (Q v B.U.heap (Safe Z EL B.U.vm B.U.heap) ∧ Fr Z.heap.size L) ∧ B.locs = A.locs ++ L ∧ B.cells = A.cells + rc ∧ B.slots = A.slots + rs ∧ CHr Z EL vm h B.U.vm B.U.heap)
theorem Ctr.pays {y : MethodName} {bytes : ByteArray} {maxL : Nat} {ret : Option FieldType} {rm : Room} {sf : List Addr} {as' : Array Value} {Q : Option Value → Heap → (Addr → Prop) → Prop} {len Wd : Nat} (C : Ctr l Z EL y bytes maxL ret [] rm sf as' h Q) (w : W κ l R Z EL own nm mx rt vm T h k n)
    (wc : (Cond.code y bytes maxL ret).before a0 Z = true) (wz : (Cond.initialized y.cls).before a0 Z = true) (hEL : EW Z a0 EL) (hf : rm.frames + 1 ≤ R.frames) (hl : Wd + (maxL + 11) + rm.locals ≤ R.locals) (hsf : ∀ x ∈ sf, x < h.size ∧ Safe Z EL vm h x) : BB κ l R Z EL vm h y len Wd as' rm.cells rm.slots Q :=
  BackS.of_freeW (bytes := bytes) (maxL := maxL) (ret := ret) (E := fun _ first o t L k n => k = rm.cells ∧ n = rm.slots ∧ (∃ v, o = .returned v ∧ (Q v t.heap (Safe Z EL t.vm t.heap) ∧ Fr Z.heap.size L)) ∧ CHr Z EL first.vm first.heap t.vm t.heap) C hf hl
    (fun m meth c A a Y hp => have hU : Z.Warmed39 A.U.vm := wtrans (s := κ.s.setVm vm) w.warm Y.warmed
      ⟨by show (Cond.and _ .tt).before a A.U = true; rw [Cond.before_and, mv hU wc]; rfl, mv hU wc, mv hU wz, hp.2.2.1, hp.2.2.2⟩)
    (fun m meth c A a g mk Y hp => ⟨hp.1, wtrans (s := κ.s.setVm vm) w.warm Y.warmed, hp.2.1, (CHv.at Y w.warm hEL w.chv).1, fun x hx => (CHv.at Y w.warm hEL w.chv).safe (hsf x hx).1 (hsf x hx).2⟩) (fun _ _ _ _ _ _ _ _ _ => trivial)
    (fun _ _ _ _ ⟨v, L, h1, h2, h3, h4⟩ => ⟨L, _, _, h4, rfl, rfl, ⟨v, h1, h2⟩, h3⟩)
    (fun m meth c A a g mk v t L k n Y hp _ _ ⟨e1, e2, ⟨v', e3, e4⟩, e5⟩ => by
      cases e3; subst e1 e2
      refine ⟨L, e4, rfl, rfl, rfl, (CHv.at Y w.warm hEL w.chv).trans ?_⟩
      rw [← hp.2.1]; exact e5)
theorem sfNil {vm : Vm} {h : Heap} : ∀ x ∈ ([] : List Addr), x < h.size ∧ Safe Z EL vm h x := fun _ q => nomatch q
theorem sfOne {vm : Vm} {h : Heap} {a : Addr} (h1 : a < h.size) (h2 : Safe Z EL vm h a) : ∀ x ∈ [a], x < h.size ∧ Safe Z EL vm h x := fun x q => by rw [List.mem_singleton.mp q]; exact ⟨h1, h2⟩
/-- a narrow payer (it interns nothing, and writes at most ws of what was there) -/
theorem BB.of_back {y : MethodName} {len Wd : Nat} {as' : Array Value} {rc rs : Nat} {Q0 : Option Value → Heap → List Loc → Prop} {Q : Option Value → Heap → (Addr → Prop) → Prop} (w : W κ l R Z EL own nm mx rt vm T h k n) (hEL : EW Z a0 EL)
    (hB : Back l R κ.p κ.e κ.b (κ.s.setVm vm) κ.a y len Wd (fun A a => a = as' ∧ A.U.heap = h ∧ A.cells + rc ≤ R.cells ∧ A.slots + rs ≤ R.slots) (fun A _ v B => ∃ L, Q0 v B.U.heap L ∧ B.locs = A.locs ++ L ∧ B.cells = A.cells + rc ∧ B.slots = A.slots + rs)) {ws : List Addr} (hs : ∀ x ∈ ws, Safe Z EL vm h x)
    (hQ : ∀ v h' L S, Q0 v h' L → Q v h' S ∧ Fr Z.heap.size L ∧ Keep h h' ws) : BB κ l R Z EL vm h y len Wd as' rc rs Q := by
  intro m meth c A g ig mk a X hg hsize hdg hW hn hp
  obtain ⟨v, B, X', ⟨L, h1, h2, h3, h4⟩, hsteps⟩ := hB m meth c A g ig mk a X hg hsize hdg hW hn hp
  obtain ⟨q1, q2, q3⟩ := hQ v B.U.heap L (Safe Z EL B.U.vm B.U.heap) h1
  refine ⟨v, B, X'.retabled X'.warmed.wide, X'.warmed.since _, by rw [hp.2.1]; exact q3.1, ⟨L, ⟨q1, q2⟩, h2, h3, h4, ?_⟩, hsteps⟩
  exact (CHr.keep q3 hs w.chv).trans (CHv.at X' w.warm hEL (w.chv.keep q3 hs))
theorem W.back (w : W κ l R Z EL own nm mx rt vm T h k n) {T' : State} {locs L : List Loc} {k' n' : Nat} (hk0 : ∃ k0, κ.s.Since vm k0 ∧ k0 ≤ h.size) (N : Fr Z.heap.size locs) (X' : Stand κ.p l κ.e R ((κ.s.setVm vm).setVm T'.vm) κ.m κ.a κ.b κ.M κ.c T' (locs ++ L) k' n') (hS : (κ.s.setVm vm).Since T'.vm T'.heap.size) (hgr : h.size ≤ T'.heap.size) (NL : Fr Z.heap.size L) (C : CHr Z EL vm h T'.vm T'.heap) : W κ l R Z EL own nm mx rt T'.vm T' T'.heap k' n' := by
  obtain ⟨w1, -, -, -, -, -, -, hZ, ho, -, CC⟩ := w
  obtain ⟨k0, hS0, hk⟩ := hk0
  obtain ⟨Y, hS', hZ', ho'⟩ := rebS (own := own) hS0 hk X' hS hgr hZ ho
  exact ⟨w1, _, _, Y, rfl, hS', Nat.le_refl _, hZ', ho', N.app NL, CC.trans C⟩
theorem W.callS (w : W κ l R Z EL own nm mx rt vm T h k n) {y : MethodName} {bytes : ByteArray} {maxL : Nat} {ret : Option FieldType} {index : Nat} (w1 : (Cond.methodLink own index y).before a0 Z = true) (w2 : (Cond.static y).before a0 Z = true) (w3 : (Cond.initialized y.cls).before a0 Z = true) (w4 : (Cond.code y bytes maxL ret).before a0 Z = true) (hy : y.cls ≠ "java/lang/invoke/MethodHandle" ∧ y.cls ≠ "java/lang/invoke/VarHandle")
    {argsL : List Value} {rc rs Wd : Nat} {Q : Option Value → Heap → (Addr → Prop) → Prop} (hK : BB κ l R Z EL vm h y 3 Wd argsL.toArray rc rs Q) {ps : List FieldType} {r0 : Option FieldType} (hde : parseMethodDescriptor y.desc = some ⟨ps, r0⟩) (hlen : argsL.length = ps.length) {st0 : List Value} (hst : st0 = argsL.reverse ++ st) (hsz : Ls.size = mx) (hW : (st.map fun v => v.category).sum ≤ Wd) (hd : decode κ.c.code pc = .ok (.invokestatic index, 3)) (hc : k + rc ≤ R.cells) (hl : n + rs ≤ R.slots)
    (g : ∀ (vm' : Vm) (T' : State) (h' : Heap) (v : Option Value), W κ l R Z EL own nm mx rt vm' T' h' (k + rc) (n + rs) → CHr Z EL vm h vm' h' → Q v h' (Safe Z EL vm' h') → Go κ G T' (pc + 3) Ls (v.toList ++ st)) : Go κ G T pc Ls st0 := by
  have w0 := w
  subst hst
  obtain ⟨q1, L, k0, X, e, hS, hk, hZ, ho, N, CC⟩ := w
  obtain ⟨v, vm₁, ⟨T', L', k', n'⟩, -, X', hS', hgr, ⟨L2, ⟨hQ, NL⟩, p1, p2, p3, p4⟩, stp⟩ := callSS X q1.1 ho (mvT (s := κ.s.setVm vm) hZ w1) (mvT (s := κ.s.setVm vm) hZ w2) (mvT (s := κ.s.setVm vm) hZ w3) (mvT (s := κ.s.setVm vm) hZ w4) hy hK (g := mkF κ.m pc Ls (argsL.reverse ++ st)) rfl (by rw [q1.2.1]; exact hsz) (argsL := argsL) (rest := st) (lenOf hde hlen) rfl (by show 2 * 0 + _ ≤ _; omega) hd (fun _ _ => ⟨rfl, e, hc, hl⟩)
  dsimp only [Pt.U, Pt.locs, Pt.cells, Pt.slots] at X' hS' hgr hQ p1 p2 p3 p4 stp
  subst p1 p2 p3
  exact Fx.after stp (g T'.vm T' T'.heap v (w0.back ⟨k0, hS, hk⟩ N X' hS' (by rw [← e]; exact hgr) NL p4) p4 hQ)
theorem W.callI (w : W κ l R Z EL own nm mx rt vm T h k n) {y : MethodName} {bytes : ByteArray} {maxL : Nat} {index : Nat} (hy1 : y.name = "<init>") (w1 : (Cond.methodLink own index y).before a0 Z = true) (w2 : (Cond.instanceMethod y).before a0 Z = true) (w4 : (Cond.code y bytes maxL none).before a0 Z = true) (hy : y.cls ≠ "java/lang/invoke/MethodHandle" ∧ y.cls ≠ "java/lang/invoke/VarHandle")
    {a : Addr} {argsL : List Value} {rc rs Wd : Nat} {Q : Option Value → Heap → (Addr → Prop) → Prop} (hK : BB κ l R Z EL vm h y 3 Wd (.ref a :: argsL).toArray rc rs Q) {ps : List FieldType} {r0 : Option FieldType} (hde : parseMethodDescriptor y.desc = some ⟨ps, r0⟩) (hlen : argsL.length = ps.length) {st0 : List Value} (hst : st0 = argsL.reverse ++ .ref a :: st) (hsz : Ls.size = mx) (hW : (st.map fun v => v.category).sum ≤ Wd) (hd : decode κ.c.code pc = .ok (.invokespecial index, 3)) (hc : k + rc ≤ R.cells) (hl : n + rs ≤ R.slots)
    (g : ∀ (vm' : Vm) (T' : State) (h' : Heap) (v : Option Value), W κ l R Z EL own nm mx rt vm' T' h' (k + rc) (n + rs) → CHr Z EL vm h vm' h' → Q v h' (Safe Z EL vm' h') → Go κ G T' (pc + 3) Ls (v.toList ++ st)) : Go κ G T pc Ls st0 := by
  have w0 := w
  subst hst
  obtain ⟨q1, L, k0, X, e, hS, hk, hZ, ho, N, CC⟩ := w
  obtain ⟨v, vm₁, ⟨T', L', k', n'⟩, -, X', hS', hgr, ⟨L2, ⟨hQ, NL⟩, p1, p2, p3, p4⟩, stp⟩ := X.specialBackS q1.1 hy1 ho (mvT (s := κ.s.setVm vm) hZ w1) (mvT (s := κ.s.setVm vm) hZ w2) (mvT (s := κ.s.setVm vm) hZ w4) hy hK (g := mkF κ.m pc Ls (argsL.reverse ++ .ref a :: st)) rfl (by rw [q1.2.1]; exact hsz) (Steps.refl _) (a := a) (argsL := argsL) (rest := st) (lenOf hde hlen) rfl (by show 2 * 0 + _ ≤ _; omega) hd (fun _ _ => ⟨rfl, e, hc, hl⟩)
  dsimp only [Pt.U, Pt.locs, Pt.cells, Pt.slots] at X' hS' hgr hQ p1 p2 p3 p4 stp
  subst p1 p2 p3
  exact Fx.after stp (g T'.vm T' T'.heap v (w0.back ⟨k0, hS, hk⟩ N X' hS' (by rw [← e]; exact hgr) NL p4) p4 hQ)
theorem W.callV (w : W κ l R Z EL own nm mx rt vm T h k n) {y z : MethodName} {C : String} {index : Nat} (w1 : (Cond.methodLink own index y).before a0 Z = true) (w2 : (Cond.declares y).before a0 Z = true) (hnf : ∀ s : State, Z.Warmed39 s.vm → NotFace s y) (w3 : (Cond.selects C y z).before a0 Z = true) (w4 : (Cond.instanceMethod z).before a0 Z = true) (hy : y.cls ≠ "java/lang/invoke/MethodHandle" ∧ y.cls ≠ "java/lang/invoke/VarHandle")
    {a : Addr} (E : Exa Z h a C) {argsL : List Value} {rc rs Wd : Nat} {Q : Option Value → Heap → (Addr → Prop) → Prop} (hK : BB κ l R Z EL vm h z 3 Wd (.ref a :: argsL).toArray rc rs Q) {ps : List FieldType} {r0 : Option FieldType} (hde : parseMethodDescriptor y.desc = some ⟨ps, r0⟩) (hlen : argsL.length = ps.length) {st0 : List Value} (hst : st0 = argsL.reverse ++ .ref a :: st) (hsz : Ls.size = mx) (hW : (st.map fun v => v.category).sum ≤ Wd) (hd : decode κ.c.code pc = .ok (.invokevirtual index, 3)) (hc : k + rc ≤ R.cells) (hl : n + rs ≤ R.slots)
    (g : ∀ (vm' : Vm) (T' : State) (h' : Heap) (v : Option Value), W κ l R Z EL own nm mx rt vm' T' h' (k + rc) (n + rs) → CHr Z EL vm h vm' h' → Q v h' (Safe Z EL vm' h') → Go κ G T' (pc + 3) Ls (v.toList ++ st)) : Go κ G T pc Ls st0 := by
  have w0 := w
  subst hst
  obtain ⟨q1, L, k0, X, e, hS, hk, hZ, ho, N, CC⟩ := w
  obtain ⟨cB, kB, i1, i2, i3⟩ := isOf (s := κ.s.setVm vm) hZ e E
  obtain ⟨v, vm₁, ⟨T', L', k', n'⟩, -, X', hS', hgr, ⟨L2, ⟨hQ, NL⟩, p1, p2, p3, p4⟩, stp⟩ := X.virtualBackS q1.1 ho (mvT (s := κ.s.setVm vm) hZ w1) (mvT (s := κ.s.setVm vm) hZ w2) (hnf (κ.s.setVm vm) hZ) (mvT (s := κ.s.setVm vm) hZ w3) (mvT (s := κ.s.setVm vm) hZ w4) hy hK i1 i3 (g := mkF κ.m pc Ls (argsL.reverse ++ .ref a :: st)) rfl (by rw [q1.2.1]; exact hsz) (Steps.refl _) (argsL := argsL) (rest := st) (lenOf hde hlen) rfl (by show 2 * 0 + _ ≤ _; omega) hd (fun _ _ => ⟨rfl, e, hc, hl⟩)
  dsimp only [Pt.U, Pt.locs, Pt.cells, Pt.slots] at X' hS' hgr hQ p1 p2 p3 p4 stp
  subst p1 p2 p3
  exact Fx.after stp (g T'.vm T' T'.heap v (w0.back ⟨k0, hS, hk⟩ N X' hS' (by rw [← e]; exact hgr) NL p4) p4 hQ)
theorem notFace {y : MethodName} {C : String} (w3 : (Cond.selects C y y).before a0 Z = true) : ∀ s : State, Z.Warmed39 s.vm → NotFace s y := fun s hZ => notFace_of_selects (args := #[]) (mvT hZ w3)
theorem W.instY (w : W κ l R Z EL own nm mx rt vm T h k n) {K : String} {index : Nat} (w1 : (Cond.classLink own index K).before a0 Z = true) {a : Addr} (F : Ins Z h a K true) (hd : decode κ.c.code pc = .ok (.instanceof index, 3))
    (g : ∀ T' : State, W κ l R Z EL own nm mx rt vm T' h k n → Go κ G T' (pc + 3) Ls (.int 1 :: st)) : Go κ G T pc Ls (.ref a :: st) := by
  obtain ⟨q1, L, k0, X, e, hS, hk, hZ, ho, N, CC⟩ := w
  obtain ⟨T', X', e', stp⟩ := RoadKit.instY X q1.1 hZ ho w1 e F (g := mkF κ.m pc Ls (.ref a :: st)) rfl rfl hd
  exact Fx.via stp (g T' ⟨q1, L, k0, X', e', hS, hk, hZ, ho, N, CC⟩)
theorem W.castY (w : W κ l R Z EL own nm mx rt vm T h k n) {K : String} {index : Nat} (w1 : (Cond.classLink own index K).before a0 Z = true) {a : Addr} (F : Ins Z h a K true) (hd : decode κ.c.code pc = .ok (.checkcast index, 3))
    (g : ∀ T' : State, W κ l R Z EL own nm mx rt vm T' h k n → Go κ G T' (pc + 3) Ls (.ref a :: st)) : Go κ G T pc Ls (.ref a :: st) := by
  obtain ⟨q1, L, k0, X, e, hS, hk, hZ, ho, N, CC⟩ := w
  obtain ⟨T', X', e', stp⟩ := RoadKit.castY X q1.1 hZ ho w1 e F (g := mkF κ.m pc Ls (.ref a :: st)) rfl rfl hd
  exact Fx.via stp (g T' ⟨q1, L, k0, X', e', hS, hk, hZ, ho, N, CC⟩)
theorem W.acmp (w : W κ l R Z EL own nm mx rt vm T h k n) {o : Int} {pc' : Nat} {a b : Addr} (hd : decode κ.c.code pc = .ok (.if_acmp .ne o, 3)) (ho : 0 ≤ (pc : Int) + o) (hp : ((pc : Int) + o).toNat = pc') (hT : ¬ a = b → Go κ G T pc' Ls st) (hF : a = b → Go κ G T (pc + 3) Ls st) : Go κ G T pc Ls (.ref b :: .ref a :: st) := by
  obtain ⟨q1, L, k0, X, e, hS, hk, hZ, ho', N, CC⟩ := w
  by_cases q : a = b
  · exact Fx.via (fun t z => RoadKit.acmp X q1.1 rfl (cd := .ne) (x := .ref a) (y := .ref b) rfl rfl (same := true) rfl hd rfl (by simp [q]) ho (pc' := pc + 3) (by simp [acV]) z) (hF q)
  · exact Fx.via (fun t z => RoadKit.acmp X q1.1 rfl (cd := .ne) (x := .ref a) (y := .ref b) rfl rfl (same := false) rfl hd rfl (by simp [q]) ho (pc' := pc') (by simp [acV, hp]) z) (hT q)
theorem W.acmpE (w : W κ l R Z EL own nm mx rt vm T h k n) {o : Int} {pc' : Nat} {a b : Addr} (hd : decode κ.c.code pc = .ok (.if_acmp .eq o, 3)) (ho : 0 ≤ (pc : Int) + o) (hp : ((pc : Int) + o).toNat = pc') (hT : a = b → Go κ G T pc' Ls st) (hF : ¬ a = b → Go κ G T (pc + 3) Ls st) : Go κ G T pc Ls (.ref b :: .ref a :: st) := by
  obtain ⟨q1, L, k0, X, e, hS, hk, hZ, ho', N, CC⟩ := w
  by_cases q : a = b
  · exact Fx.via (fun t z => RoadKit.acmp X q1.1 rfl (cd := .eq) (x := .ref a) (y := .ref b) rfl rfl (same := true) rfl hd rfl (by simp [q]) ho (pc' := pc') (by simp [acV, hp]) z) (hT q)
  · exact Fx.via (fun t z => RoadKit.acmp X q1.1 rfl (cd := .eq) (x := .ref a) (y := .ref b) rfl rfl (same := false) rfl hd rfl (by simp [q]) ho (pc' := pc + 3) (by simp [acV]) z) (hF q)
/-- invokevirtual of a private method -/
theorem W.callP (w : W κ l R Z EL own nm mx rt vm T h k n) {y : MethodName} {bytes : ByteArray} {maxL : Nat} {ret : Option FieldType} {index : Nat} (w1 : (Cond.methodLink own index y).before a0 Z = true) (w2 : (Cond.instanceMethod y).before a0 Z = true) (hnf : ∀ s : State, Z.Warmed39 s.vm → NotFace s y) (w5 : (Cond.privateMethod y).before a0 Z = true) (w4 : (Cond.code y bytes maxL ret).before a0 Z = true) (hy : y.cls ≠ "java/lang/invoke/MethodHandle" ∧ y.cls ≠ "java/lang/invoke/VarHandle")
    {a : Addr} {C : String} (E : Exa Z h a C) {argsL : List Value} {rc rs Wd : Nat} {Q : Option Value → Heap → (Addr → Prop) → Prop} (hK : BB κ l R Z EL vm h y 3 Wd (.ref a :: argsL).toArray rc rs Q) {ps : List FieldType} {r0 : Option FieldType} (hde : parseMethodDescriptor y.desc = some ⟨ps, r0⟩) (hlen : argsL.length = ps.length) {st0 : List Value} (hst : st0 = argsL.reverse ++ .ref a :: st) (hsz : Ls.size = mx) (hW : (st.map fun v => v.category).sum ≤ Wd) (hd : decode κ.c.code pc = .ok (.invokevirtual index, 3)) (hc : k + rc ≤ R.cells) (hl : n + rs ≤ R.slots)
    (g : ∀ (vm' : Vm) (T' : State) (h' : Heap) (v : Option Value), W κ l R Z EL own nm mx rt vm' T' h' (k + rc) (n + rs) → CHr Z EL vm h vm' h' → Q v h' (Safe Z EL vm' h') → Go κ G T' (pc + 3) Ls (v.toList ++ st)) : Go κ G T pc Ls st0 := by
  have w0 := w
  subst hst
  obtain ⟨q1, L, k0, X, e, hS, hk, hZ, ho, N, CC⟩ := w
  obtain ⟨cell, hcell, hob⟩ := E.cell
  have hinst : (Cond.instanceMethod y).before κ.a (κ.s.setVm vm) = true := mvT (s := κ.s.setVm vm) hZ w2
  have hcode : (Cond.code y bytes maxL ret).before κ.a (κ.s.setVm vm) = true := mvT (s := κ.s.setVm vm) hZ w4
  obtain ⟨mk, methM, hnamed, hmethM, hstM, habM⟩ := Cond.instanceMethod_spec hinst
  obtain ⟨methM', cM, hmethM', -, -, -, -, -, -, hsigM⟩ := Cond.code_spec hnamed hcode
  cases hmethM.symm.trans hmethM'
  obtain ⟨kP, hkP, hkPi⟩ := hnf (κ.s.setVm vm) hZ mk hnamed
  have hselP : selectMethod κ.e.platform (κ.s.setVm vm).vm cell.cls mk = .method mk := selectMethod_private hmethM (Cond.privateMethod_at (args := #[]) (mvP (s := κ.s.setVm vm) hZ w5) mk methM hnamed hmethM)
  obtain ⟨vm₁, X₁, hstep₁⟩ := X.invokevirtual q1.1 ho (mvT (s := κ.s.setVm vm) hZ w1) hnamed hmethM hstM hkP hkPi hy (a := a) (cell := cell) (by rw [e]; exact hcell) hob hselP hmethM habM hkP hkPi (g := mkF κ.m pc Ls (argsL.reverse ++ .ref a :: st)) rfl (argsL := argsL) (rest := st) (lenOf hde hlen _ hsigM) rfl hd
  obtain ⟨v, ⟨T', L', k', n'⟩, X', hS', hgr, ⟨L2, ⟨hQ, NL⟩, p1, p2, p3, p4⟩, hsteps⟩ := hK κ.m κ.M κ.c ⟨T.setVm vm₁, L, k, n⟩ (mkF κ.m pc Ls st) (.invokevirtual index) mk (.ref a :: argsL).toArray X₁ rfl (by show Ls.size = _; rw [q1.2.1]; exact hsz) hd (by show 2 * 0 + (st.map fun v => v.category).sum ≤ _; omega) (X₁.named hnamed) ⟨rfl, e, hc, hl⟩
  dsimp only [Pt.U, Pt.locs, Pt.cells, Pt.slots] at X' hS' hgr hQ p1 p2 p3 p4 hsteps
  subst p1 p2 p3
  have stp := (hstep₁ _ fun acts => by rw [doInvoke_state]; exact Steps.refl _).trans hsteps
  exact Fx.after stp (g T'.vm T' T'.heap v (w0.back ⟨k0, hS, hk⟩ N X' hS' (by rw [← e]; exact hgr) NL p4) p4 hQ)
theorem notFaceAs {y y' : MethodName} {C : String} (hc : y.cls = y'.cls) (w3 : (Cond.selects C y' y').before a0 Z = true) (w4 : (Cond.instanceMethod y').before a0 Z = true) : ∀ s : State, Z.Warmed39 s.vm → NotFace s y := fun s hZ r0 h0 => by
  have hi : (Cond.instanceMethod y').before #[] s = true := mvT hZ w4
  obtain ⟨mk, methM, hnamed, -⟩ := Cond.instanceMethod_spec hi
  obtain ⟨kr, h1, h2⟩ := notFace (a0 := a0) w3 s hZ mk hnamed
  have e1 := findClass_of_methodNamed h0
  have e2 := findClass_of_methodNamed hnamed
  rw [hc] at e1
  have e3 := Option.some.inj (e1.symm.trans e2)
  exact ⟨kr, by rw [e3]; exact h1, h2⟩
/-- invokevirtual of a method that a superclass declares -/
theorem W.callUp (w : W κ l R Z EL own nm mx rt vm T h k n) {y z : MethodName} {C owner : String} {index : Nat} (w1 : (Cond.methodLink own index y).before a0 Z = true) (w2 : (Cond.sameMethod y.cls owner y.name y.desc).before a0 Z = true) (w3 : (Cond.declares ⟨owner, y.name, y.desc⟩).before a0 Z = true) (hy : owner ≠ "java/lang/invoke/MethodHandle" ∧ owner ≠ "java/lang/invoke/VarHandle") (w4 : (Cond.selects C y z).before a0 Z = true) (w5 : (Cond.instanceMethod z).before a0 Z = true)
    {a : Addr} (E : Exa Z h a C) {argsL : List Value} {rc rs Wd : Nat} {Q : Option Value → Heap → (Addr → Prop) → Prop} (hK : BB κ l R Z EL vm h z 3 Wd (.ref a :: argsL).toArray rc rs Q) {ps : List FieldType} {r0 : Option FieldType} (hde : parseMethodDescriptor y.desc = some ⟨ps, r0⟩) (hlen : argsL.length = ps.length) {st0 : List Value} (hst : st0 = argsL.reverse ++ .ref a :: st) (hsz : Ls.size = mx) (hW : (st.map fun v => v.category).sum ≤ Wd) (hd : decode κ.c.code pc = .ok (.invokevirtual index, 3)) (hc : k + rc ≤ R.cells) (hl : n + rs ≤ R.slots)
    (g : ∀ (vm' : Vm) (T' : State) (h' : Heap) (v : Option Value), W κ l R Z EL own nm mx rt vm' T' h' (k + rc) (n + rs) → CHr Z EL vm h vm' h' → Q v h' (Safe Z EL vm' h') → Go κ G T' (pc + 3) Ls (v.toList ++ st)) : Go κ G T pc Ls st0 := by
  have w0 := w
  subst hst
  obtain ⟨q1, L, k0, X, e, hS, hk, hZ, ho, N, CC⟩ := w
  obtain ⟨cB, kB, i1, i2, i3⟩ := isOf (s := κ.s.setVm vm) hZ e E
  obtain ⟨v, vm₁, ⟨T', L', k', n'⟩, -, X', hS', hgr, ⟨L2, ⟨hQ, NL⟩, p1, p2, p3, p4⟩, stp⟩ := X.virtualBackUpS q1.1 ho (mvT (s := κ.s.setVm vm) hZ w1) (mvT (s := κ.s.setVm vm) hZ w2) (mvT (s := κ.s.setVm vm) hZ w3) hy (mvT (s := κ.s.setVm vm) hZ w4) (mvT (s := κ.s.setVm vm) hZ w5) hK i1 i3 (g := mkF κ.m pc Ls (argsL.reverse ++ .ref a :: st)) rfl (by rw [q1.2.1]; exact hsz) (Steps.refl _) (argsL := argsL) (rest := st) (lenOf hde hlen) rfl (by show 2 * 0 + _ ≤ _; omega) hd (fun _ _ => ⟨rfl, e, hc, hl⟩)
  dsimp only [Pt.U, Pt.locs, Pt.cells, Pt.slots] at X' hS' hgr hQ p1 p2 p3 p4 stp
  subst p1 p2 p3
  exact Fx.after stp (g T'.vm T' T'.heap v (w0.back ⟨k0, hS, hk⟩ N X' hS' (by rw [← e]; exact hgr) NL p4) p4 hQ)
theorem W.instNo (w : W κ l R Z EL own nm mx rt vm T h k n) {K C : String} {index : Nat} (w1 : (Cond.classLink own index K).before a0 Z = true) {a : Addr} (E : Exa Z h a C) (F : ∃ c t, Z.vm.findClass C = some c ∧ Z.vm.findClass K = some t ∧ Z.vm.assignable c t = false) (hd : decode κ.c.code pc = .ok (.instanceof index, 3))
    (g : ∀ T' : State, W κ l R Z EL own nm mx rt vm T' h k n → Go κ G T' (pc + 3) Ls (.int 0 :: st)) : Go κ G T pc Ls (.ref a :: st) := by
  obtain ⟨q1, L, k0, X, e, hS, hk, hZ, ho, N, CC⟩ := w
  obtain ⟨T', X', e', stp⟩ := RoadKit.instNo X q1.1 hZ ho w1 e E F (g := mkF κ.m pc Ls (.ref a :: st)) rfl rfl hd
  exact Fx.via stp (g T' ⟨q1, L, k0, X', e', hS, hk, hZ, ho, N, CC⟩)
theorem W.instNull (w : W κ l R Z EL own nm mx rt vm T h k n) {index : Nat} (hd : decode κ.c.code pc = .ok (.instanceof index, 3)) (g : Go κ G T (pc + 3) Ls (.int 0 :: st)) : Go κ G T pc Ls (.null :: st) := by
  obtain ⟨q1, L, k0, X, -⟩ := w
  exact Fx.via (Stand.instanceofNull X q1.1 (g := mkF κ.m pc Ls (.null :: st)) rfl rfl hd) g
theorem W.lsw (w : W κ l R Z EL own nm mx rt vm T h k n) {x : Int32} {dflt : Int} {pairs : Array (Int × Int)} {len : Nat} {pc' : Nat} (hd : decode κ.c.code pc = .ok (.lookupswitch dflt pairs, len)) (hso : (pairs.toList.zip (pairs.toList.drop 1)).all (fun (a, next) => a.1 < next.1) = true) {p : Int × Int} (hf : pairs.find? (·.1 == x.toInt) = some p) (ho : 0 ≤ (pc : Int) + p.2) (hp : ((pc : Int) + p.2).toNat = pc') (g : Go κ G T pc' Ls st) : Go κ G T pc Ls (.int x :: st) := by
  obtain ⟨q1, L, k0, X, -⟩ := w
  subst hp
  obtain ⟨p1, p2⟩ := p
  exact Fx.via (fun t z => Stand.lookupswitchHit X q1.1 (g := mkF κ.m pc Ls (.int x :: st)) rfl rfl hd hso hf ho t z) g
/-- the end -/
theorem W.ends (w : W κ l R Z EL own nm mx rt vm T h k n) {Q : Option Value → Heap → (Addr → Prop) → Prop} {v : Option Value} (hv : κ.M.sig.returnType = none → v = none) (hc : k ≤ R.cells) (hl : n ≤ R.slots) (hQ : ∀ S : Addr → Prop, (∀ x, x < h.size → Safe Z EL vm h x → S x) → Q v h S) {A : State}
    (hs : ∀ fs, (∀ (f : JFrame) (acts : List Action), f.method = κ.m → f.locked = none → f.entered = [] → (doReturn κ.e (T.setTop f) acts v).1 = T.setFrames fs) → Steps κ.p.tables κ.e κ.b A (T.setFrames fs)) : Fx κ (GQ κ Z EL R Q) A := by
  have w0 := w
  obtain ⟨q1, L, k0, X, e, hS, hk, hZ, ho, N, CC⟩ := w
  obtain ⟨a0, hEL⟩ := q1.2.2.2.2.2
  obtain ⟨fs, h1, h2, h3, h4⟩ := Stand.leaveW (s := κ.s) X hS (by rw [e]; exact hk) hv q1.2.2.2.1
  refine ⟨v, T.setFrames fs, hs fs h1, h2, h3, L, ⟨?_, N⟩, ?_, h4.1, h4.2.1, h4.2.2.1, h4.2.2.2.mono hc hl⟩
  · show Q v T.heap (Safe Z EL T.vm T.heap)
    rw [e]; exact hQ _ fun x hx S => (CHv.at X hZ hEL CC.1).safe hx S
  · have := CC.trans (CHv.at X hZ hEL CC.1)
    show CHr Z EL κ.s.vm κ.s.heap T.vm T.heap
    rw [e]; exact this
theorem W.retV (w : W κ l R Z EL own nm mx none vm T h k n) {Q : Option Value → Heap → (Addr → Prop) → Prop} (hd : decode κ.c.code pc = .ok (.return_, 1)) (hc : k ≤ R.cells) (hl : n ≤ R.slots) (hQ : ∀ S : Addr → Prop, (∀ x, x < h.size → Safe Z EL vm h x → S x) → Q none h S) : Go κ (GQ κ Z EL R Q) T pc Ls [] := by
  have w0 := w
  obtain ⟨q1, L, k0, X, -⟩ := w
  exact w0.ends (fun _ => rfl) hc hl hQ fun fs hr => X.returnOut q1.1 q1.2.2.1 hd hr
theorem W.retI (w : W κ l R Z EL own nm mx rt vm T h k n) {t : FieldType} (ht : rt = some t) (htk : t = .int ∨ t = .boolean ∨ t = .byte ∨ t = .char ∨ t = .short) {Q : Option Value → Heap → (Addr → Prop) → Prop} {z : Int32} (hn : narrow t (.int z) = .int z) (hd : decode κ.c.code pc = .ok (.ireturn, 1)) (hc : k ≤ R.cells) (hl : n ≤ R.slots) (hQ : ∀ S : Addr → Prop, (∀ x, x < h.size → Safe Z EL vm h x → S x) → Q (some (.int z)) h S) : Go κ (GQ κ Z EL R Q) T pc Ls (.int z :: st) := by
  have w0 := w
  obtain ⟨q1, L, k0, X, -⟩ := w
  subst ht
  exact w0.ends (fun q => by rw [q1.2.2.1] at q; cases q) hc hl hQ fun fs hr => retOut X q1.1 q1.2.2.1 hn (Or.inl ⟨rfl, htk, z, rfl⟩) hd hr
theorem W.retA (w : W κ l R Z EL own nm mx rt vm T h k n) {t : FieldType} (ht : rt = some t) (htk : t.isReference = true) {Q : Option Value → Heap → (Addr → Prop) → Prop} {v : Value} (hvr : v.isRef = true) (hn : narrow t v = v) (hd : decode κ.c.code pc = .ok (.areturn, 1)) (hc : k ≤ R.cells) (hl : n ≤ R.slots) (hQ : ∀ S : Addr → Prop, (∀ x, x < h.size → Safe Z EL vm h x → S x) → Q (some v) h S) : Go κ (GQ κ Z EL R Q) T pc Ls (v :: st) := by
  have w0 := w
  obtain ⟨q1, L, k0, X, -⟩ := w
  subst ht
  exact w0.ends (fun q => by rw [q1.2.2.1] at q; cases q) hc hl hQ fun fs hr => retOut X q1.1 q1.2.2.1 hn (Or.inr (Or.inr (Or.inr (Or.inr ⟨rfl, htk, hvr⟩)))) hd hr
end Laws
end Jvm.WK
namespace Jvm.WK
open Sem ClassFile Op Lib Jvm.Stand Jvm.Free Jvm.LawKit Jvm.RoadKit Bundle
/-! WK3: Strings, plainly -/
abbrev ST : String := "java/lang/String"
def lo8 (x : Int32) : Int32 := x.toInt8.toInt32
def hi8 (x : Int32) : Int32 := (x >>> ((8 : Int32) &&& 31)).toInt8.toInt32
def lo0 (x : Int32) : Int32 := (x >>> ((0 : Int32) &&& 31)).toInt8.toInt32
def IsC (cs : List Int32) : Prop := ∀ c ∈ cs, ¬ c < 0 ∧ ¬ 65535 < c
def IsL (cs : List Int32) : Prop := ∀ c ∈ cs, ¬ c < 0 ∧ ¬ 255 < c
theorem IsL.isC {cs : List Int32} (h : IsL cs) : IsC cs := fun c hc => ⟨(h c hc).1, fun q => (h c hc).2 (by
  rw [Int32.lt_iff_toInt_lt] at q ⊢
  have e1 : (65535 : Int32).toInt = 65535 := by decide
  have e2 : (255 : Int32).toInt = 255 := by decide
  omega)⟩
def u16 : List Int32 → List Int32
  | [] => []
  | c :: cs => lo0 c :: hi8 c :: u16 cs
theorem u16_len : ∀ cs : List Int32, (u16 cs).length = 2 * cs.length
  | [] => rfl
  | c :: cs => by simp only [u16, List.length_cons, u16_len cs]; omega
theorem u16_app : ∀ a b : List Int32, u16 (a ++ b) = u16 a ++ u16 b
  | [], b => rfl
  | c :: cs, b => by simp only [List.cons_append, u16, u16_app cs b]
theorem u16_at : ∀ (cs : List Int32) (i : Nat) (c : Int32), cs[i]? = some c → (u16 cs)[2 * i]? = some (lo0 c) ∧ (u16 cs)[2 * i + 1]? = some (hi8 c)
  | [], i, c, h => by simp at h
  | d :: cs, 0, c, h => by
    have e : d = c := by simpa using h
    subst e
    exact ⟨rfl, rfl⟩
  | d :: cs, i + 1, c, h => by
    have h' : cs[i]? = some c := by simpa using h
    obtain ⟨h1, h2⟩ := u16_at cs i c h'
    have e1 : 2 * (i + 1) = 2 * i + 1 + 1 := by omega
    have e2 : 2 * (i + 1) + 1 = 2 * i + 1 + 1 + 1 := by omega
    rw [e1]
    exact ⟨by simpa [u16] using h1, by simpa [u16] using h2⟩
theorem ofNat_toInt {i : Nat} (h : i < 2147483648) : (Int32.ofNat i).toInt = (i : Int) := Int32.toInt_ofNat_small (by omega)
theorem ofNat_add {i j : Nat} : Int32.ofNat i + Int32.ofNat j = Int32.ofNat (i + j) := (Int32.ofNat_add i j).symm
theorem ofNat_succ {i : Nat} : Int32.ofNat i + (1 : Int32) = Int32.ofNat (i + 1) := (Int32.ofNat_add i 1).symm
theorem ofNat_lt {i j : Nat} (hi : i < 2147483648) (hj : j < 2147483648) : Int32.ofNat i < Int32.ofNat j ↔ i < j := by
  rw [Int32.lt_iff_toInt_lt, ofNat_toInt hi, ofNat_toInt hj]; omega
theorem ofNat_inj {i j : Nat} (hi : i < 2147483648) (hj : j < 2147483648) : Int32.ofNat i = Int32.ofNat j ↔ i = j := by
  rw [← Int32.toInt_inj, ofNat_toInt hi, ofNat_toInt hj]; omega
theorem ofNat_dbl {i : Nat} (h : i < 1073741824) : Int32.ofNat i <<< ((1 : Int32) &&& 31) = Int32.ofNat (2 * i) := by
  rw [← Int32.toInt_inj, ofNat_toInt (by omega)]
  have h1 := c_ishl (Int32.ofNat i) 1 1 (by decide)
  rw [ofNat_toInt (by omega)] at h1
  have h2 := rng32 (Int32.ofNat i <<< ((1 : Int32) &&& 31))
  push_cast at h1 ⊢
  omega
theorem ofNat_half {i : Nat} (h : 2 * i < 2147483648) : Int32.ofNat (2 * i) >>> ((1 : Int32) &&& 31) = Int32.ofNat i := by
  rw [← Int32.toInt_inj, ofNat_toInt (by omega), c_ishr _ 1 1 (by decide), ofNat_toInt (by omega)]
  push_cast
  omega
theorem shr0 (x : Int32) : x >>> ((0 : Int32) &&& 31) = x := by
  rw [← Int32.toInt_inj, c_ishr _ 0 0 (by decide)]
  simp
theorem fits_lo8 (x : Int32) : fits .byte (.int (lo8 x)) = true := Jvm.Free.SBG.fits_of_int8 _
theorem fits_i2b (x : Int32) : fits .byte (.int x.toInt8.toInt32) = true := Jvm.Free.SBG.fits_of_int8 _
theorem nar_i2b (x : Int32) : nar .byte x.toInt8.toInt32 = x.toInt8.toInt32 := by simp [nar]
theorem fits_i2c (x : Int32) : fits .char (.int x.toUInt32.toUInt16.toUInt32.toInt32) = true := by
  have h := c_i2c x
  have e1 : (0 : Int32).toInt = 0 := by decide
  have e2 : (65535 : Int32).toInt = 65535 := by decide
  simp only [fits, Bool.and_eq_true, decide_eq_true_eq, Int32.le_iff_toInt_le, e1, e2]
  omega
theorem nar_i2c (x : Int32) : nar .char x.toUInt32.toUInt16.toUInt32.toInt32 = x.toUInt32.toUInt16.toUInt32.toInt32 := by
  simp only [nar, UInt32.toUInt32_toInt32, UInt16.toUInt16_toUInt32]
theorem char_of {x : Int32} (h0 : ¬ x < 0) (h1 : ¬ 65535 < x) : x.toUInt32.toUInt16.toUInt32.toInt32 = x := by
  rw [← Int32.toInt_inj]
  have h := c_i2c x
  rw [Int32.lt_iff_toInt_lt] at h0 h1
  have e1 : (0 : Int32).toInt = 0 := by decide
  have e2 : (65535 : Int32).toInt = 65535 := by decide
  omega
theorem narrow_char {x : Int32} (h0 : ¬ x < 0) (h1 : ¬ 65535 < x) : narrow .char (.int x) = .int x := by
  have := char_of h0 h1
  show Value.int x.toUInt32.toUInt16.toUInt32.toInt32 = _
  rw [this]
theorem lo8_and {x : Int32} (h0 : ¬ x < 0) (h1 : ¬ 255 < x) : lo8 x &&& (255 : Int32) = x := by
  rw [← Int32.toInt_inj, c_mask _ 255 8 (by decide) (by decide)]
  have h := c_i2b x
  rw [Int32.lt_iff_toInt_lt] at h0 h1
  have e1 : (0 : Int32).toInt = 0 := by decide
  have e2 : (255 : Int32).toInt = 255 := by decide
  unfold lo8
  omega
theorem lo8_inj {x y : Int32} (h0 : ¬ x < 0) (h1 : ¬ 255 < x) (g0 : ¬ y < 0) (g1 : ¬ 255 < y) (e : lo8 x = lo8 y) : x = y := by
  rw [← lo8_and h0 h1, ← lo8_and g0 g1, e]
theorem getc {c : Int32} (h0 : ¬ c < 0) (h1 : ¬ 65535 < c) : (((lo0 c &&& (255 : Int32)) <<< ((0 : Int32) &&& 31)) ||| ((hi8 c &&& (255 : Int32)) <<< ((8 : Int32) &&& 31))).toUInt32.toUInt16.toUInt32.toInt32 = c := by
  rw [← Int32.toInt_inj]
  rw [Int32.lt_iff_toInt_lt] at h0 h1
  have e1 : (0 : Int32).toInt = 0 := by decide
  have e2 : (65535 : Int32).toInt = 65535 := by decide
  have a0 := c_ishr c 0 0 (by decide)
  have a1 := c_i2b (c >>> ((0 : Int32) &&& 31))
  have a2 := c_mask (lo0 c) 255 8 (by decide) (by decide)
  have a3 := c_ishl (lo0 c &&& 255) 0 0 (by decide)
  have a4 := rng32 ((lo0 c &&& (255 : Int32)) <<< ((0 : Int32) &&& 31))
  have b0 := c_ishr c 8 8 (by decide)
  have b1 := c_i2b (c >>> ((8 : Int32) &&& 31))
  have b2 := c_mask (hi8 c) 255 8 (by decide) (by decide)
  have b3 := c_ishl (hi8 c &&& 255) 8 8 (by decide)
  have b4 := rng32 ((hi8 c &&& (255 : Int32)) <<< ((8 : Int32) &&& 31))
  have cc := c_or' ((lo0 c &&& (255 : Int32)) <<< ((0 : Int32) &&& 31)) ((hi8 c &&& (255 : Int32)) <<< ((8 : Int32) &&& 31)) 8 (by decide) 256 (by decide)
  have dd := c_i2c (((lo0 c &&& (255 : Int32)) <<< ((0 : Int32) &&& 31)) ||| ((hi8 c &&& (255 : Int32)) <<< ((8 : Int32) &&& 31)))
  have ee := rng32 (((lo0 c &&& (255 : Int32)) <<< ((0 : Int32) &&& 31)) ||| ((hi8 c &&& (255 : Int32)) <<< ((8 : Int32) &&& 31)))
  unfold lo0 hi8 at *
  generalize (c >>> ((0 : Int32) &&& 31)).toInt8.toInt32 = x0 at *
  generalize (c >>> ((8 : Int32) &&& 31)).toInt8.toInt32 = x1 at *
  generalize (x0 &&& (255 : Int32)) <<< ((0 : Int32) &&& 31) = y0 at *
  generalize (x1 &&& (255 : Int32)) <<< ((8 : Int32) &&& 31) = y1 at *
  generalize (y0 ||| y1).toUInt32.toUInt16.toUInt32.toInt32 = z at *
  have c2 : y1.toInt % 256 = 0 := by omega
  have c3 : 0 ≤ y0.toInt := by omega
  have c4 : y0.toInt < 256 := by omega
  have cc := cc c2 c3 c4
  omega
theorem set_map {pre : List Int32} {k : Nat} {a : Int32} (f : Int32 → Int32) : (pre.map f ++ List.replicate (k + 1) (0 : Int32)).set pre.length a = pre.map f ++ a :: List.replicate k 0 := by
  rw [List.set_append_right _ _ (by simp)]
  simp [List.replicate_succ]
theorem set_u16 {pre : List Int32} {k : Nat} {a b : Int32} : ((u16 pre ++ List.replicate (2 * (k + 1)) (0 : Int32)).set (2 * pre.length) a).set (2 * pre.length + 1) b = u16 pre ++ a :: b :: List.replicate (2 * k) 0 := by
  have e : 2 * (k + 1) = 2 * k + 1 + 1 := by omega
  rw [e, List.replicate_succ, List.replicate_succ, List.set_append_right _ _ (by rw [u16_len]; omega)]
  rw [u16_len, Nat.sub_self, List.set_cons_zero, List.set_append_right _ _ (by rw [u16_len]; omega), u16_len]
  have e2 : 2 * pre.length + 1 - 2 * pre.length = 0 + 1 := by omega
  rw [e2, List.set_cons_succ, List.set_cons_zero]
theorem take_succ {cs : List Int32} {i : Nat} {c : Int32} (h : cs[i]? = some c) : cs.take (i + 1) = cs.take i ++ [c] := by
  rw [List.take_add_one, h]; rfl
/-- a String that spells cs -/
def Str (Z : State) (h : Heap) (a : Addr) (cs : List Int32) : Prop :=
  ∃ b, Exa Z h a ST ∧ Fld Z h a ST "value" "[B" (.ref b) ∧ IsC cs ∧ cs.length < 1073741824 ∧
    ((IsL cs ∧ Fld Z h a ST "coder" "B" (.int 0) ∧ Ary Z h b .byte (cs.map lo8)) ∨ (¬ IsL cs ∧ Fld Z h a ST "coder" "B" (.int 1) ∧ Ary Z h b .byte (u16 cs)))
section StrFacts
variable {Z : State} {h h' : Heap} {a : Addr} {cs : List Int32} {ws : List Addr}
theorem Str.ext (E : Ext h h') (F : Str Z h a cs) : Str Z h' a cs := by
  obtain ⟨b, f1, f2, f3, f4, f5⟩ := F
  exact ⟨b, f1.ext E, f2.ext E, f3, f4, f5.imp (fun q => ⟨q.1, q.2.1.ext E, q.2.2.ext E⟩) (fun q => ⟨q.1, q.2.1.ext E, q.2.2.ext E⟩)⟩
theorem Str.exa (F : Str Z h a cs) : Exa Z h a ST := by obtain ⟨b, f1, -⟩ := F; exact f1
theorem Str.lt (F : Str Z h a cs) : a < h.size := F.exa.lt
theorem Str.isC (F : Str Z h a cs) : IsC cs := by obtain ⟨b, f1, f2, f3, -⟩ := F; exact f3
theorem Keep.toExt (K : Keep h h' []) : Ext h h' := ⟨K.1, fun x c q => K.2.1 x c q nin0⟩
/-- kept where all that was written is new (at or above h.size) -/
theorem Str.keepNew {h0 : Heap} (K : Keep h0 h' ws) (F : Str Z h0 a cs) (hw : ∀ x ∈ ws, h0.size ≤ x) : Str Z h' a cs :=
  F.ext ⟨K.1, fun x c q => K.2.1 x c q fun hm => absurd (Array.getElem?_eq_some_iff.mp q).1 (Nat.not_lt.mpr (hw x hm))⟩
end StrFacts
end Jvm.WK
namespace Jvm.WK
open Sem ClassFile Op Lib Jvm.Stand Jvm.Free Jvm.LawKit Jvm.RoadKit Bundle
section StrMore
variable {Z : State} {h h' : Heap} {a b x y : Addr} {cs ds : List Int32} {ws : List Addr} {a0 : Array Value}
theorem Ary.ne_exa {C : String} {kk : Nat} {ty : FieldType} {vs : List Int32} (F : Ary Z h y ty vs) (E : Exa Z h x C) (wi : (Cond.instantiable C kk).before a0 Z = true) : y ≠ x := by
  obtain ⟨c, A, -⟩ := F; exact fun e => ne_arr E wi A e.symm
theorem Ary.inj {ty : FieldType} {us vs : List Int32} (F : Ary Z h a ty us) (G : Ary Z h a ty vs) : us = vs := by
  obtain ⟨c, A, r1, -⟩ := F
  obtain ⟨c', A', r1', -⟩ := G
  cases A.1.symm.trans A'.1
  have := r1.symm.trans r1'
  exact (List.map_inj_right (fun x y q => by cases q; rfl)).mp this
theorem Ary.isC (F : Ary Z h a .char cs) : IsC cs := fun c hc => by
  have := F.fit c hc
  exact rng_char this
theorem Fld.inj {C n d : String} {v w : Value} (F : Fld Z h a C n d v) (G : Fld Z h a C n d w) : v = w := Classical.byContradiction fun q => F.ne G q rfl
theorem lo8_list : ∀ {cs ds : List Int32}, IsL cs → IsL ds → cs.map lo8 = ds.map lo8 → cs = ds
  | [], [], _, _, _ => rfl
  | [], d :: ds, _, _, h => by simp at h
  | c :: cs, [], _, _, h => by simp at h
  | c :: cs, d :: ds, h1, h2, h => by
    simp only [List.map_cons, List.cons.injEq] at h
    have e1 := lo8_inj (h1 c (List.mem_cons_self ..)).1 (h1 c (List.mem_cons_self ..)).2 (h2 d (List.mem_cons_self ..)).1 (h2 d (List.mem_cons_self ..)).2 h.1
    have e2 := lo8_list (fun x hx => h1 x (List.mem_cons_of_mem _ hx)) (fun x hx => h2 x (List.mem_cons_of_mem _ hx)) h.2
    rw [e1, e2]
theorem Str.lat (F : Str Z h a cs) (hL : IsL cs) : ∃ b, Fld Z h a ST "value" "[B" (.ref b) ∧ Fld Z h a ST "coder" "B" (.int 0) ∧ Ary Z h b .byte (cs.map lo8) := by
  obtain ⟨b, f1, f2, f3, f4, f5 | f5⟩ := F
  · exact ⟨b, f2, f5.2⟩
  · exact absurd hL f5.1
theorem Str.inj (F : Str Z h a cs) (G : Str Z h a ds) (hc : IsL cs) (hd : IsL ds) : cs = ds := by
  obtain ⟨b, f1, f2, f3⟩ := F.lat hc
  obtain ⟨b', g1, g2, g3⟩ := G.lat hd
  have := Fld.inj f1 g1
  cases this
  exact lo8_list hc hd (f3.inj g3)
theorem Str.len_lt (F : Str Z h a cs) : cs.length < 1073741824 := by obtain ⟨b, f1, f2, f3, f4, -⟩ := F; exact f4
theorem cod0 {n : Nat} : (((Int32.ofNat n - Int32.ofNat n).toUInt32 >>> ((31 : Int32) &&& 31).toUInt32).toInt32).toInt8.toInt32 = 0 := by
  rw [Int32.sub_self]; decide
theorem cod1 {n : Nat} (h0 : 0 < n) (h : 2 * n < 2147483648) : (((Int32.ofNat n - Int32.ofNat (2 * n)).toUInt32 >>> ((31 : Int32) &&& 31).toUInt32).toInt32).toInt8.toInt32 = 1 := by
  have e : ((Int32.ofNat n - Int32.ofNat (2 * n)).toUInt32 >>> ((31 : Int32) &&& 31).toUInt32).toInt32 = 1 := by
    rw [← Int32.toInt_inj, c_iushr _ 31 31 (by decide) (by decide)]
    have h1 := c_isub (Int32.ofNat n) (Int32.ofNat (2 * n))
    rw [ofNat_toInt (by omega), ofNat_toInt (by omega)] at h1
    have h2 := rng32 (Int32.ofNat n - Int32.ofNat (2 * n))
    have h3 : (1 : Int32).toInt = 1 := by decide
    rw [h3]
    omega
  rw [e]; decide
theorem isL_of {cs : List Int32} (hc : IsC cs) (h : ∀ i c, i < cs.length → cs[i]? = some c → ¬ 255 < c) : IsL cs := fun c hm => by
  obtain ⟨i, hi, rfl⟩ := List.getElem_of_mem hm
  exact ⟨(hc _ hm).1, h i _ hi (List.getElem?_eq_getElem hi)⟩
theorem not_isL {cs : List Int32} {i : Nat} {c : Int32} (h : cs[i]? = some c) (q : 255 < c) : ¬ IsL cs := fun hl => (hl c (List.mem_of_getElem? h)).2 q
end StrMore
end Jvm.WK
namespace Jvm.WK
open Sem ClassFile Op Lib Jvm.Stand Jvm.Free Jvm.LawKit Jvm.RoadKit Bundle
theorem fitsCh {x : Int32} (h0 : ¬ x < 0) (h1 : ¬ 65535 < x) : fits .char (.int x) = true := by
  have := fits_i2c x
  rw [char_of h0 h1] at this; exact this
theorem narCh {x : Int32} (h0 : ¬ x < 0) (h1 : ¬ 65535 < x) : nar .char x = x := char_of h0 h1
theorem and255 (x : Int32) : ¬ (x &&& (255 : Int32)).toUInt32.toUInt16.toUInt32.toInt32 < 0 ∧ ¬ 255 < (x &&& (255 : Int32)).toUInt32.toUInt16.toUInt32.toInt32 := by
  have h1 := c_and x 255 (by decide)
  have h2 := c_i2c (x &&& 255)
  have h3 : (255 : Int32).toInt = 255 := by decide
  have h4 : (0 : Int32).toInt = 0 := by decide
  rw [Int32.lt_iff_toInt_lt, Int32.lt_iff_toInt_lt]
  omega
theorem and255' (x : Int32) : ¬ (x &&& (255 : Int32)) < 0 ∧ ¬ 255 < (x &&& (255 : Int32)) := by
  have h1 := c_and x 255 (by decide)
  have h3 : (255 : Int32).toInt = 255 := by decide
  have h4 : (0 : Int32).toInt = 0 := by decide
  rw [Int32.lt_iff_toInt_lt, Int32.lt_iff_toInt_lt]
  omega
theorem i2c_bounds (x : Int32) : ¬ x.toUInt32.toUInt16.toUInt32.toInt32 < 0 ∧ ¬ 65535 < x.toUInt32.toUInt16.toUInt32.toInt32 := by
  have h2 := c_i2c x
  have h3 : (65535 : Int32).toInt = 65535 := by decide
  have h4 : (0 : Int32).toInt = 0 := by decide
  rw [Int32.lt_iff_toInt_lt, Int32.lt_iff_toInt_lt]
  omega
theorem le255 {x : Int32} (h : ¬ 255 < x) : ¬ 65535 < x := by
  have h3 : (65535 : Int32).toInt = 65535 := by decide
  have h4 : (255 : Int32).toInt = 255 := by decide
  rw [Int32.lt_iff_toInt_lt] at h ⊢
  omega
/-- a remainder of a masked int is a small number -/
theorem remNat (x q m : Int32) (n : Nat) (hq : 0 ≤ q.toInt) (hm : m.toInt = n) (h0 : 0 < n) : ∃ k, k < n ∧ (x &&& q) % m = Int32.ofNat k := by
  have h1 := c_and x q hq
  have h2 := (c_irem (x &&& q) m n hm).1 h1.1
  have h3 := Int.emod_nonneg (x &&& q).toInt (show (n : Int) ≠ 0 by omega)
  have h4 := Int.emod_lt_of_pos (x &&& q).toInt (show (0 : Int) < n by omega)
  have h5 := rng32 m
  refine ⟨((x &&& q).toInt % n).toNat, by omega, ?_⟩
  rw [← Int32.toInt_inj, h2, ofNat_toInt (by omega)]
  omega
/-- an int masked by a small constant is a small number -/
theorem andNat (x m : Int32) (n : Nat) (hm : m.toInt = n) : ∃ k, k ≤ n ∧ (x &&& m) = Int32.ofNat k := by
  have h1 := c_and x m (by omega)
  have h5 := rng32 m
  refine ⟨(x &&& m).toInt.toNat, by omega, ?_⟩
  rw [← Int32.toInt_inj, ofNat_toInt (by omega)]
  omega
end Jvm.WK
namespace Jvm.WK
open Sem ClassFile Op Lib Jvm.Stand Jvm.Free Jvm.LawKit Jvm.RoadKit Bundle
/-- a String is kept where just an object of another class was written -/
theorem Str.keepObj {Z : State} {h h' : Heap} {a x : Addr} {cs : List Int32} {C : String} {kk : Nat} {a0 : Array Value} (F : Str Z h a cs) (K : Keep h h' [x]) (E : Exa Z h x C) (hC : C ≠ ST) (wi : (Cond.instantiable C kk).before a0 Z = true) : Str Z h' a cs := by
  obtain ⟨b, f1, f2, f3, f4, f5⟩ := F
  have n1 : a ∉ [x] := ninS (Exa.ne f1 E (Ne.symm hC)) nin0
  have n2 : ∀ {vs : List Int32}, Ary Z h b .byte vs → b ∉ [x] := fun A => ninS (A.ne_exa E wi) nin0
  exact ⟨b, f1.keep K, f2.keep K n1, f3, f4, f5.imp (fun q => ⟨q.1, q.2.1.keep K n1, q.2.2.keep K (n2 q.2.2)⟩) (fun q => ⟨q.1, q.2.1.keep K n1, q.2.2.keep K (n2 q.2.2)⟩)⟩
theorem Ary.ofStatic {Z : State} {a : Addr} {args : Array Value} {t : Term} {AL : List Int32} (ev : t.eval args Z none [] Z = some (.ref a)) (hx : (Cond.arrayOf t .int).value args Z none Z [] = some true) (n : Nat) (hn : AL.length = n) (hlen : (Term.length t).eval args Z none [] Z = some (.int (Int32.ofNat n))) (hl : n < 2147483648) (hr : ∀ (i : Nat) (v : Int32), AL[i]? = some v → (Term.elem t (.int (Int32.ofNat i))).eval args Z none [] Z = some (.int v)) : Ary Z Z.heap a .int AL := by
  obtain ⟨c, A⟩ := Arr.start ev hx
  have hz : c.slots.size = n := by
    simp only [Term.eval, ev, Option.bind_eq_bind, Option.bind_some, A.fin (Vm.Alike.refl _)] at hlen
    split at hlen
    · rename_i hq
      have := Value.int.inj (Option.some.inj hlen)
      exact (ofNat_inj (by omega) hl).mp this
    · simp at hlen
  refine ⟨c, A, List.ext_getElem? fun i => ?_, by omega, fun v hv => rfl⟩
  by_cases hi : i < n
  · have hv := List.getElem?_eq_getElem (l := AL) (i := i) (by omega)
    have q := elem_in (hr i _ hv) ev (Term.int_eval _) A.1
    rw [clamp_ofNat (by omega)] at q
    rw [List.getElem?_map, hv, Array.getElem?_toList]; exact q.2
  · rw [List.getElem?_eq_none (by simp; omega), List.getElem?_eq_none (by simp; omega)]
theorem noIns {Z : State} {a0 : Array Value} {C O K : String} {nn : Nat} (w : (Cond.superclass C O).before a0 Z = true) (wo : (Cond.noSuperclass O).before a0 Z = true) (wi : (Cond.instantiable K nn).before a0 Z = true) (h1 : C ≠ K) (h2 : O ≠ K) : ∃ c t, Z.vm.findClass C = some c ∧ Z.vm.findClass K = some t ∧ Z.vm.assignable c t = false := by
  obtain ⟨t, kt, g1, g2, g3, g4, -⟩ := Cond.instantiable_spec wi
  have n0 : NS Z O K := by
    obtain ⟨c, k, a1, a2, a3, -, -⟩ := Cond.noSuperclass_spec wo
    have ne := ids_ne a1 g1 h2
    refine ⟨c, t, a1, g1, fun fuel => ?_⟩
    cases fuel with
    | zero => rfl
    | succ f => simp [Vm.isSubclassAux, ne, a2, a3]
  obtain ⟨c, t', h0, g0, n3⟩ := NS.step w n0 h1
  cases g1.symm.trans g0
  obtain ⟨p, k, kp, q1, q2, q3, q4, q5, -, q7⟩ := Cond.superclass_spec h0 w
  have ne := ids_ne h0 g0 h1
  have hi : kt.isInterface = false := by
    rw [Bool.or_eq_false_iff] at g4; exact g4.1
  refine ⟨c, _, h0, g0, ?_⟩
  show Z.vm.assignableAux (255 + 1) c _ = false
  simp [Vm.assignableAux, ne, q2, g2, q5, g3, hi, Vm.isSubclass, n3]
end Jvm.WK
namespace Jvm.Pilot.@@N@@
open Jvm Jvm.ClassFile Sem Op Lib Jvm.Free Jvm.Stand Jvm.LawKit Jvm.RoadKit Jvm.WK Bundle Jvm.Pilot.@@N@@.Jvm.D
def JS (Z : State) : Prop := (∃ c : Int32, Sta Z Z.heap "java/lang/String" "COMPACT_STRINGS" "Z" (.int c) ∧ ¬ c = 0) ∧ ∃ f : Value, Sta Z Z.heap "jdk/internal/util/Preconditions" "SIOOBE_FORMATTER" "Ljava/util/function/BiFunction;" f ∧ f.isRef = true
theorem own_str {a0 : Array Value} {Z : State} (hw : ∀ d ∈ tables_1, d.before a0 Z = true) : ∀ c ∈ Bundle.stringAtoms, c.before a0 Z = true := by
  have h : ∀ c ∈ Bundle.stringAtoms, c ∈ tables_1 := by decide +kernel
  exact fun c hc => hw c (h c hc)
theorem own_eqi {args : Array Value} {s : State} {t : Term} {z : Int32} (h : (Jvm.Cond.eq t (.int z)).value args s none s [] = some true) : t.eval args s none [] s = some (.int z) := eqv_i (Term.int_eval z) h
theorem own_take {d0 d1 d2 d3 d4 d5 d6 d7 d8 : Int32} {n : Nat} (hn : n < 9) : (([d0, d1, d2, d3, d4, d5, d6, d7, d8] : List Int32).take n = ([67, 79, 78, 78, 69, 67, 84] : List Int32) ∨ ([d0, d1, d2, d3, d4, d5, d6, d7, d8] : List Int32).take n = ([83, 84, 79, 77, 80] : List Int32)) ↔ ((n = 7 ∧ d0 = 67 ∧ d1 = 79 ∧ d2 = 78 ∧ d3 = 78 ∧ d4 = 69 ∧ d5 = 67 ∧ d6 = 84) ∨ (n = 5 ∧ d0 = 83 ∧ d1 = 84 ∧ d2 = 79 ∧ d3 = 77 ∧ d4 = 80)) := by
  obtain rfl | rfl | rfl | rfl | rfl | rfl | rfl | rfl | rfl : n = 0 ∨ n = 1 ∨ n = 2 ∨ n = 3 ∨ n = 4 ∨ n = 5 ∨ n = 6 ∨ n = 7 ∨ n = 8 := by omega
  all_goals simp
theorem own_isLt {n : Nat} {cs : List Int32} (h : IsL cs) : IsL (cs.take n) := fun c hc => h c (List.mem_of_mem_take hc)
theorem pd0 : parseMethodDescriptor "([CI[BII)I" = some ⟨[(.array .char), .int, (.array .byte), .int, .int], (some .int)⟩ := by decide +kernel
theorem pd1 : parseMethodDescriptor "([CII)[B" = some ⟨[(.array .char), .int, .int], (some (.array .byte))⟩ := by decide +kernel
theorem pd2 : parseMethodDescriptor "([BI)B" = some ⟨[(.array .byte), .int], (some .byte)⟩ := by decide +kernel
theorem pd3 : parseMethodDescriptor "([CIILjava/lang/Void;)V" = some ⟨[(.array .char), .int, .int, (.object "java/lang/Void")], none⟩ := by decide +kernel
theorem pd4 : parseMethodDescriptor "()B" = some ⟨[], (some .byte)⟩ := by decide +kernel
theorem pd5 : parseMethodDescriptor "(IILjava/util/function/BiFunction;)I" = some ⟨[.int, .int, (.object "java/util/function/BiFunction")], (some .int)⟩ := by decide +kernel
theorem pd6 : parseMethodDescriptor "(II)V" = some ⟨[.int, .int], none⟩ := by decide +kernel
theorem pd7 : parseMethodDescriptor "()Z" = some ⟨[], (some .boolean)⟩ := by decide +kernel
theorem pd8 : parseMethodDescriptor "([BI)C" = some ⟨[(.array .byte), .int], (some .char)⟩ := by decide +kernel
theorem pd9 : parseMethodDescriptor "([B[B)Z" = some ⟨[(.array .byte), (.array .byte)], (some .boolean)⟩ := by decide +kernel
theorem pd10 : parseMethodDescriptor "()I" = some ⟨[], (some .int)⟩ := by decide +kernel
theorem pd11 : parseMethodDescriptor "(I)C" = some ⟨[.int], (some .char)⟩ := by decide +kernel
theorem pd12 : parseMethodDescriptor "([C)V" = some ⟨[(.array .char)], none⟩ := by decide +kernel
theorem pd13 : parseMethodDescriptor "(Ljava/lang/Object;)Z" = some ⟨[(.object "java/lang/Object")], (some .boolean)⟩ := by decide +kernel
theorem pd14 : parseMethodDescriptor "(Ljava/lang/String;IIZCC)C" = some ⟨[(.object "java/lang/String"), .int, .int, .boolean, .char, .char], (some .char)⟩ := by decide +kernel
theorem pd15 : parseMethodDescriptor "(ICCCCCCCCC)Ljava/lang/String;" = some ⟨[.int, .char, .char, .char, .char, .char, .char, .char, .char, .char], (some (.object "java/lang/String"))⟩ := by decide +kernel
theorem pd16 : parseMethodDescriptor "(Ljava/lang/String;)Z" = some ⟨[(.object "java/lang/String")], (some .boolean)⟩ := by decide +kernel
def D_cmp5 : List (Nat × Instr × Nat) := [(0, .iconst 0, 1), (1, .istore 5, 2), (3, .iload 5, 2), (5, .iload 4, 2), (7, .if_icmp .ge 37, 3), (10, .aload_n 0, 1), (11, .iload_n 1, 1), (12, .caload, 1), (13, .istore 6, 2), (15, .iload 6, 2), (17, .sipush 255, 3), (20, .if_icmp .le 6, 3), (23, .iload 5, 2), (25, .ireturn, 1), (26, .aload_n 2, 1), (27, .iload_n 3, 1), (28, .iload 6, 2), (30, .i2b, 1), (31, .bastore, 1), (32, .iinc 1 1, 3), (35, .iinc 3 1, 3), (38, .iinc 5 1, 3), (41, .goto (-38), 3), (44, .iload 4, 2), (46, .ireturn, 1)]
theorem hD_cmp5 : ∀ q ∈ D_cmp5, decode jdk_52_method_21_code q.1 = .ok q.2 := by decide +kernel
set_option maxRecDepth 65536 in
set_option maxHeartbeats 4000000 in
theorem c_cmp5 (l : Launch) (Z : State) (a0 : Array Value) (hw : ∀ d ∈ tables_1, d.before a0 Z = true) (hEL : EW Z a0 consts_1) (hJS : JS Z) {A d : Addr} {cs : List Int32} {h : Heap} (FA : Ary Z h A .char cs) (FD : Ary Z h d .byte (List.replicate cs.length 0)) (hd0 : Z.heap.size ≤ d) : Ctr l Z consts_1 (⟨"java/lang/StringUTF16", "compress", "([CI[BII)I"⟩ : MethodName) jdk_52_method_21_code 7 (some .int) [] ({ frames := 0, cells := 0, slots := 0, locals := 0 } : Room) [d] #[(.ref A), (.int (0 : Int32)), (.ref d), (.int (0 : Int32)), (.int (Int32.ofNat cs.length))] h (fun v h' S => ∃ r, r ≤ cs.length ∧ v = some (.int (Int32.ofNat r)) ∧ Keep h h' [d] ∧ (∀ i c, i < r → cs[i]? = some c → ¬ 255 < c) ∧ (r < cs.length → ∃ c, cs[r]? = some c ∧ 255 < c) ∧ (r = cs.length → Ary Z h' d .byte (cs.map lo8))) := by
  refine enter (a0 := a0) (by first | (simp [plainName, overriddenIn]; done) | decide +kernel) hEL (Ls := #[.val (.ref A), .val (.int (0 : Int32)), .val (.ref d), .val (.int (0 : Int32)), .val (.int (Int32.ofNat cs.length)), .unset, .unset]) (fun m => by first | (simp [entryFrame, mkF, argsToLocals, Value.category]; done) | rfl) ?_
  intro κ vm T hby hs w Sf
  have dc := Dec.of hby hD_cmp5
  show Go κ (GQ κ Z consts_1 ({ frames := 0, cells := 0, slots := 0, locals := 0 } : Room) (fun v h' S => ∃ r, r ≤ cs.length ∧ v = some (.int (Int32.ofNat r)) ∧ Keep h h' [d] ∧ (∀ i c, i < r → cs[i]? = some c → ¬ 255 < c) ∧ (r < cs.length → ∃ c, cs[r]? = some c ∧ 255 < c) ∧ (r = cs.length → Ary Z h' d .byte (cs.map lo8)))) T 0 #[.val (.ref A), .val (.int (0 : Int32)), .val (.ref d), .val (.int (0 : Int32)), .val (.int (Int32.ofNat cs.length)), .unset, .unset] []
  have hNA := FA.small
  have hne : A ≠ d := FA.ne_ty FD (by decide)
  have key : ∀ (f i : Nat), i + f = cs.length → (∀ j c, j < i → cs[j]? = some c → ¬ 255 < c) → ∀ (T1 : State) (h1 : Heap) (s6 : Slot), W κ l ({ frames := 0, cells := 0, slots := 0, locals := 0 } : Room) Z consts_1 "java/lang/StringUTF16" "compress" 7 (some .int) vm T1 h1 0 0 → Ary Z h1 A .char cs → Ary Z h1 d .byte ((cs.take i).map lo8 ++ List.replicate f 0) → Keep h h1 [d] → Safe Z consts_1 vm h1 d → One s6 → Go κ (GQ κ Z consts_1 ({ frames := 0, cells := 0, slots := 0, locals := 0 } : Room) (fun v h' S => ∃ r, r ≤ cs.length ∧ v = some (.int (Int32.ofNat r)) ∧ Keep h h' [d] ∧ (∀ i c, i < r → cs[i]? = some c → ¬ 255 < c) ∧ (r < cs.length → ∃ c, cs[r]? = some c ∧ 255 < c) ∧ (r = cs.length → Ary Z h' d .byte (cs.map lo8)))) T1 3 #[.val (.ref A), .val (.int (Int32.ofNat i)), .val (.ref d), .val (.int (Int32.ofNat i)), .val (.int (Int32.ofNat cs.length)), .val (.int (Int32.ofNat i)), s6] [] := by
    intro f
    induction f with
    | zero =>
      intro i hi hlt T1 h1 s6 w1 GA GD K S hs6
      obtain rfl : i = cs.length := by omega
      show Go κ _ T1 3 #[.val (.ref A), .val (.int (Int32.ofNat cs.length)), .val (.ref d), .val (.int (Int32.ofNat cs.length)), .val (.int (Int32.ofNat cs.length)), .val (.int (Int32.ofNat cs.length)), s6] []
      refine blk (pc' := 7) (Ls' := #[.val (.ref A), .val (.int (Int32.ofNat cs.length)), .val (.ref d), .val (.int (Int32.ofNat cs.length)), .val (.int (Int32.ofNat cs.length)), .val (.int (Int32.ofNat cs.length)), s6]) (st' := [(.int (Int32.ofNat cs.length)), (.int (Int32.ofNat cs.length))]) [oIload w1.ok (dc.g 2 rfl), oIload w1.ok (dc.g 3 rfl)] rfl ?_
      refine cGe (pc' := 44) w1.ok (dc.g 4 rfl) (by decide) (by decide) (fun hc1 => ?_) (fun hc1 => absurd hc1 (fun q => absurd q (by rw [ofNat_lt hNA hNA]; omega)))
      show Go κ _ T1 44 #[.val (.ref A), .val (.int (Int32.ofNat cs.length)), .val (.ref d), .val (.int (Int32.ofNat cs.length)), .val (.int (Int32.ofNat cs.length)), .val (.int (Int32.ofNat cs.length)), s6] []
      refine blk (pc' := 46) (Ls' := #[.val (.ref A), .val (.int (Int32.ofNat cs.length)), .val (.ref d), .val (.int (Int32.ofNat cs.length)), .val (.int (Int32.ofNat cs.length)), .val (.int (Int32.ofNat cs.length)), s6]) (st' := [(.int (Int32.ofNat cs.length))]) [oIload w1.ok (dc.g 23 rfl)] rfl ?_
      exact w1.retI (t := .int) rfl (Or.inl rfl) rfl (dc.g 24 rfl) (by decide) (by decide) (fun S hS => ⟨cs.length, Nat.le_refl _, rfl, K, hlt, fun q => absurd q (Nat.lt_irrefl _), fun _ => by simpa using GD⟩)
    | succ f ih =>
      intro i hi hlt T1 h1 s6 w1 GA GD K S hs6
      obtain ⟨c, hc⟩ : ∃ c, cs[i]? = some c := ⟨_, List.getElem?_eq_getElem (by omega)⟩
      show Go κ _ T1 3 #[.val (.ref A), .val (.int (Int32.ofNat i)), .val (.ref d), .val (.int (Int32.ofNat i)), .val (.int (Int32.ofNat cs.length)), .val (.int (Int32.ofNat i)), s6] []
      refine blk (pc' := 7) (Ls' := #[.val (.ref A), .val (.int (Int32.ofNat i)), .val (.ref d), .val (.int (Int32.ofNat i)), .val (.int (Int32.ofNat cs.length)), .val (.int (Int32.ofNat i)), s6]) (st' := [(.int (Int32.ofNat cs.length)), (.int (Int32.ofNat i))]) [oIload w1.ok (dc.g 2 rfl), oIload w1.ok (dc.g 3 rfl)] rfl ?_
      refine cGe (pc' := 44) w1.ok (dc.g 4 rfl) (by decide) (by decide) (fun hc2 => absurd ((ofNat_lt (by omega) hNA).mpr (by omega)) hc2) (fun hc2 => ?_)
      show Go κ _ T1 10 #[.val (.ref A), .val (.int (Int32.ofNat i)), .val (.ref d), .val (.int (Int32.ofNat i)), .val (.int (Int32.ofNat cs.length)), .val (.int (Int32.ofNat i)), s6] []
      refine blk (pc' := 12) (Ls' := #[.val (.ref A), .val (.int (Int32.ofNat i)), .val (.ref d), .val (.int (Int32.ofNat i)), .val (.int (Int32.ofNat cs.length)), .val (.int (Int32.ofNat i)), s6]) (st' := [(.int (Int32.ofNat i)), (.ref A)]) [oAloadN w1.ok (dc.g 5 rfl), oIloadN w1.ok (dc.g 6 rfl)] rfl ?_
      refine w1.cld GA (i := i) rfl hc (dc.g 7 rfl) ?_
      show Go κ _ T1 13 #[.val (.ref A), .val (.int (Int32.ofNat i)), .val (.ref d), .val (.int (Int32.ofNat i)), .val (.int (Int32.ofNat cs.length)), .val (.int (Int32.ofNat i)), s6] [(.int c)]
      refine istoreG w1.ok (dc.g 8 rfl) rfl hs6 ?_
      show Go κ _ T1 15 #[.val (.ref A), .val (.int (Int32.ofNat i)), .val (.ref d), .val (.int (Int32.ofNat i)), .val (.int (Int32.ofNat cs.length)), .val (.int (Int32.ofNat i)), .val (.int c)] []
      refine blk (pc' := 20) (Ls' := #[.val (.ref A), .val (.int (Int32.ofNat i)), .val (.ref d), .val (.int (Int32.ofNat i)), .val (.int (Int32.ofNat cs.length)), .val (.int (Int32.ofNat i)), .val (.int c)]) (st' := [(.int (255 : Int32)), (.int c)]) [oIload w1.ok (dc.g 9 rfl), oSipush w1.ok (dc.g 10 rfl)] rfl ?_
      refine cLe (pc' := 26) w1.ok (dc.g 11 rfl) (by decide) (by decide) (fun hc3 => ?_) (fun hc3 => ?_)
      · show Go κ _ T1 26 #[.val (.ref A), .val (.int (Int32.ofNat i)), .val (.ref d), .val (.int (Int32.ofNat i)), .val (.int (Int32.ofNat cs.length)), .val (.int (Int32.ofNat i)), .val (.int c)] []
        refine blk (pc' := 31) (Ls' := #[.val (.ref A), .val (.int (Int32.ofNat i)), .val (.ref d), .val (.int (Int32.ofNat i)), .val (.int (Int32.ofNat cs.length)), .val (.int (Int32.ofNat i)), .val (.int c)]) (st' := [(.int ((c).toInt8.toInt32)), (.int (Int32.ofNat i)), (.ref d)]) [oAloadN w1.ok (dc.g 14 rfl), oIloadN w1.ok (dc.g 15 rfl), oIload w1.ok (dc.g 16 rfl), oI2b w1.ok (dc.g 17 rfl)] rfl ?_
        refine w1.bst GD (i := i) rfl (by simp; omega) (nar_i2b _) (fits_i2b _) S hd0 (dc.g 18 rfl) ?_
        intro T4 h6 w5 W7 F8 S9
        show Go κ _ T4 32 #[.val (.ref A), .val (.int (Int32.ofNat i)), .val (.ref d), .val (.int (Int32.ofNat i)), .val (.int (Int32.ofNat cs.length)), .val (.int (Int32.ofNat i)), .val (.int c)] []
        obtain ⟨slW7, vvW7, WW7⟩ := W7
        refine blk (pc' := 3) (Ls' := #[.val (.ref A), .val (.int ((Int32.ofNat i) + (1 : Int32))), .val (.ref d), .val (.int ((Int32.ofNat i) + (1 : Int32))), .val (.int (Int32.ofNat cs.length)), .val (.int ((Int32.ofNat i) + (1 : Int32))), .val (.int c)]) (st' := []) [oIinc w5.ok (dc.g 19 rfl), oIinc w5.ok (dc.g 20 rfl), oIinc w5.ok (dc.g 21 rfl), oGoto w5.ok 3 (dc.g 22 rfl)] rfl ?_
        rw [ofNat_succ]
        refine ih (i + 1) (by omega) (fun j c' hj hc' => ?_) _ _ _ w5 (GA.other WW7 hne) ?_ (K.wr WW7 (Or.inl (List.mem_of_getElem? (i := 0) rfl))) S9 (One.val rfl)
        · rcases Nat.lt_succ_iff_lt_or_eq.mp hj with q | q
          · exact hlt j c' q hc'
          · subst q; rw [hc] at hc'; cases hc'; exact hc3
        · have e : (cs.take i).length = i := by rw [List.length_take]; omega
          have := set_map (pre := cs.take i) (k := f) (a := c.toInt8.toInt32) lo8
          rw [e] at this
          rw [this] at F8
          rw [take_succ hc, List.map_append, List.append_assoc]; exact F8
      · show Go κ _ T1 23 #[.val (.ref A), .val (.int (Int32.ofNat i)), .val (.ref d), .val (.int (Int32.ofNat i)), .val (.int (Int32.ofNat cs.length)), .val (.int (Int32.ofNat i)), .val (.int c)] []
        refine blk (pc' := 25) (Ls' := #[.val (.ref A), .val (.int (Int32.ofNat i)), .val (.ref d), .val (.int (Int32.ofNat i)), .val (.int (Int32.ofNat cs.length)), .val (.int (Int32.ofNat i)), .val (.int c)]) (st' := [(.int (Int32.ofNat i))]) [oIload w1.ok (dc.g 12 rfl)] rfl ?_
        exact w1.retI (t := .int) rfl (Or.inl rfl) rfl (dc.g 13 rfl) (by decide) (by decide) (fun S hS => ⟨i, by omega, rfl, K, hlt, fun _ => ⟨c, hc, hc3⟩, fun q => by omega⟩)
  refine blk (pc' := 3) (Ls' := #[.val (.ref A), .val (.int (0 : Int32)), .val (.ref d), .val (.int (0 : Int32)), .val (.int (Int32.ofNat cs.length)), .val (.int (0 : Int32)), .unset]) (st' := []) [oIconst w.ok (dc.g 0 rfl), oIstore w.ok (dc.g 1 rfl)] rfl ?_
  exact key cs.length 0 (by omega) (fun j c q => by omega) T h .unset w FA (by simpa using FD) (Keep.refl _ _) (Sf d (List.mem_singleton.mpr rfl)) One.u
def D_cmp3 : List (Nat × Instr × Nat) := [(0, .iload_n 2, 1), (1, .newarray .byte, 2), (3, .astore_n 3, 1), (4, .aload_n 0, 1), (5, .iload_n 1, 1), (6, .aload_n 3, 1), (7, .iconst 0, 1), (8, .iload_n 2, 1), (9, .invokestatic 115, 3), (12, .istore 4, 2), (14, .iload 4, 2), (16, .iload_n 2, 1), (17, .if_icmp .eq 40, 3), (20, .aload_n 0, 1), (21, .iload_n 1, 1), (22, .iload_n 2, 1), (23, .invokestatic 119, 3), (26, .astore 5, 2), (28, .aload 5, 2), (30, .iload 4, 2), (32, .invokestatic 71, 3), (35, .sipush 255, 3), (38, .if_icmp .gt 16, 3), (41, .aload 5, 2), (43, .iconst 0, 1), (44, .aload_n 3, 1), (45, .iconst 0, 1), (46, .iload_n 2, 1), (47, .invokestatic 123, 3), (50, .iload_n 2, 1), (51, .if_icmp .eq 6, 3), (54, .aload 5, 2), (56, .areturn, 1), (57, .aload_n 3, 1), (58, .areturn, 1)]
theorem hD_cmp3 : ∀ q ∈ D_cmp3, decode jdk_52_method_16_code q.1 = .ok q.2 := by decide +kernel
set_option maxRecDepth 65536 in
set_option maxHeartbeats 4000000 in
theorem c_cmp3 (l : Launch) (Z : State) (a0 : Array Value) (hw : ∀ d ∈ tables_1, d.before a0 Z = true) (hEL : EW Z a0 consts_1) (hJS : JS Z) {A : Addr} {cs : List Int32} {h : Heap} (oz : Ext Z.heap h) (FA : Ary Z h A .char cs) (hn : cs.length ≤ 9) (hL : IsL cs) : Ctr l Z consts_1 (⟨"java/lang/StringUTF16", "compress", "([CII)[B"⟩ : MethodName) jdk_52_method_16_code 6 (some (.array .byte)) [] ({ frames := 1, cells := 1, slots := 9, locals := 18 } : Room) [] #[(.ref A), (.int (0 : Int32)), (.int (Int32.ofNat cs.length))] h (fun v h' S => Keep h h' [] ∧ ∃ x, v = some (.ref x) ∧ ((IsL cs ∧ Ary Z h' x .byte (cs.map lo8)) ∨ (¬ IsL cs ∧ Ary Z h' x .byte (u16 cs)))) := by
  refine enter (a0 := a0) (by first | (simp [plainName, overriddenIn]; done) | decide +kernel) hEL (Ls := #[.val (.ref A), .val (.int (0 : Int32)), .val (.int (Int32.ofNat cs.length)), .unset, .unset, .unset]) (fun m => by first | (simp [entryFrame, mkF, argsToLocals, Value.category]; done) | rfl) ?_
  intro κ vm T hby hs w Sf
  have dc := Dec.of hby hD_cmp3
  show Go κ (GQ κ Z consts_1 ({ frames := 1, cells := 1, slots := 9, locals := 18 } : Room) (fun v h' S => Keep h h' [] ∧ ∃ x, v = some (.ref x) ∧ ((IsL cs ∧ Ary Z h' x .byte (cs.map lo8)) ∨ (¬ IsL cs ∧ Ary Z h' x .byte (u16 cs))))) T 0 #[.val (.ref A), .val (.int (0 : Int32)), .val (.int (Int32.ofNat cs.length)), .unset, .unset, .unset] []
  have ozs : Ext Z.heap κ.s.heap := by rw [hs]; exact oz
  have hIC := FA.isC
  refine blk (pc' := 1) (Ls' := #[.val (.ref A), .val (.int (0 : Int32)), .val (.int (Int32.ofNat cs.length)), .unset, .unset, .unset]) (st' := [(.int (Int32.ofNat cs.length))]) [oIloadN w.ok (dc.g 0 rfl)] rfl ?_
  refine w.newarr (aty := .byte) (wd hw 3 rfl) (dc.g 1 rfl) (c := cs.length) (nneg_ofNat (by omega)) (clamp_ofNat (by omega)) (cap := 9) (by first | decide | omega) (by first | decide | omega) (by decide) (by decide) rfl rfl ?_
  intro T10 h12 x13 w11 g14 E15 F16 S17
  show Go κ _ T10 3 #[.val (.ref A), .val (.int (0 : Int32)), .val (.int (Int32.ofNat cs.length)), .unset, .unset, .unset] [(.ref x13)]
  refine blk (pc' := 9) (Ls' := #[.val (.ref A), .val (.int (0 : Int32)), .val (.int (Int32.ofNat cs.length)), .val (.ref x13), .unset, .unset]) (st' := [(.int (Int32.ofNat cs.length)), (.int (0 : Int32)), (.ref x13), (.int (0 : Int32)), (.ref A)]) [oAstoreN w11.ok (dc.g 2 rfl), oAloadN w11.ok (dc.g 3 rfl), oIloadN w11.ok (dc.g 4 rfl), oAloadN w11.ok (dc.g 5 rfl), oIconst w11.ok (dc.g 6 rfl), oIloadN w11.ok (dc.g 7 rfl)] rfl ?_
  refine w11.callS (wd hw 66 rfl) (wd hw 67 rfl) (wd hw 64 rfl) (wd hw 68 rfl) (by decide) (argsL := [(.ref A), (.int (0 : Int32)), (.ref x13), (.int (0 : Int32)), (.int (Int32.ofNat cs.length))]) (Wd := 0) (Ctr.pays (len := 3) (Wd := 0) (c_cmp5 l Z a0 hw hEL hJS (FA.ext E15) F16 (by rw [g14]; exact oz.1)) w11 (wd hw 68 rfl) (wd hw 64 rfl) hEL (by decide) (by decide) (sfOne F16.lt S17)) pd0 rfl (st := []) rfl rfl (Nat.le_of_eq rfl) (dc.g 8 rfl) (by decide) (by decide) ?_
  intro vm18 T19 h20 v21 w22 C23 Q24
  obtain ⟨r, hr, rfl, K2, hlt, hge, hall⟩ := Q24
  show Go κ _ T19 12 #[.val (.ref A), .val (.int (0 : Int32)), .val (.int (Int32.ofNat cs.length)), .val (.ref x13), .unset, .unset] [(.int (Int32.ofNat r))]
  refine blk (pc' := 17) (Ls' := #[.val (.ref A), .val (.int (0 : Int32)), .val (.int (Int32.ofNat cs.length)), .val (.ref x13), .val (.int (Int32.ofNat r)), .unset]) (st' := [(.int (Int32.ofNat cs.length)), (.int (Int32.ofNat r))]) [oIstore w22.ok (dc.g 9 rfl), oIload w22.ok (dc.g 10 rfl), oIloadN w22.ok (dc.g 11 rfl)] rfl ?_
  have K0 : Keep h h20 [] := ((Keep.refl h []).ext E15).trans K2 (allS (Or.inr (by rw [g14]; exact Nat.le_refl _)) all0)
  refine cEq (pc' := 57) w22.ok (dc.g 12 rfl) (by decide) (by decide) (fun hc25 => ?_) (fun hc25 => ?_)
  · show Go κ _ T19 57 #[.val (.ref A), .val (.int (0 : Int32)), .val (.int (Int32.ofNat cs.length)), .val (.ref x13), .val (.int (Int32.ofNat r)), .unset] []
    have er : r = cs.length := (ofNat_inj (by omega) (by omega)).mp hc25
    refine blk (pc' := 58) (Ls' := #[.val (.ref A), .val (.int (0 : Int32)), .val (.int (Int32.ofNat cs.length)), .val (.ref x13), .val (.int (Int32.ofNat r)), .unset]) (st' := [(.ref x13)]) [oAloadN w22.ok (dc.g 33 rfl)] rfl ?_
    exact w22.retA rfl rfl rfl rfl (dc.g 34 rfl) (by decide) (by decide) (fun S hS => ⟨K0, _, rfl, Or.inl ⟨isL_of hIC (by rw [← er]; exact hlt), hall er⟩⟩)
  · show Go κ _ T19 20 #[.val (.ref A), .val (.int (0 : Int32)), .val (.int (Int32.ofNat cs.length)), .val (.ref x13), .val (.int (Int32.ofNat r)), .unset] []
    have er : r < cs.length := (Nat.lt_or_eq_of_le hr).elim id (fun q => absurd (by rw [q]) hc25)
    obtain ⟨c, hc1, hc2⟩ := hge er
    exact absurd hL (not_isL hc1 hc2)
def D_codl : List (Nat × Instr × Nat) := [(0, .iload_n 1, 1), (1, .aload_n 0, 1), (2, .arraylength, 1), (3, .isub, 1), (4, .bipush 31, 2), (6, .iushr, 1), (7, .i2b, 1), (8, .ireturn, 1)]
theorem hD_codl : ∀ q ∈ D_codl, decode jdk_52_method_15_code q.1 = .ok q.2 := by decide +kernel
set_option maxRecDepth 65536 in
set_option maxHeartbeats 4000000 in
theorem c_codl (l : Launch) (Z : State) (a0 : Array Value) (hw : ∀ d ∈ tables_1, d.before a0 Z = true) (hEL : EW Z a0 consts_1) (hJS : JS Z) {y : Addr} {vs : List Int32} {n : Nat} {r : Int32} {h : Heap} (F : Ary Z h y .byte vs) (hm : (vs.length = n ∧ r = 0) ∨ (vs.length = 2 * n ∧ 0 < n ∧ r = 1)) : Ctr l Z consts_1 (⟨"java/lang/StringUTF16", "coderFromArrayLen", "([BI)B"⟩ : MethodName) jdk_52_method_15_code 2 (some .byte) [] ({ frames := 0, cells := 0, slots := 0, locals := 0 } : Room) [] #[(.ref y), (.int (Int32.ofNat n))] h (fun v h' S => h = h' ∧ v = some (.int r)) := by
  refine enter (a0 := a0) (by first | (simp [plainName, overriddenIn]; done) | decide +kernel) hEL (Ls := #[.val (.ref y), .val (.int (Int32.ofNat n))]) (fun m => by first | (simp [entryFrame, mkF, argsToLocals, Value.category]; done) | rfl) ?_
  intro κ vm T hby hs w Sf
  have dc := Dec.of hby hD_codl
  show Go κ (GQ κ Z consts_1 ({ frames := 0, cells := 0, slots := 0, locals := 0 } : Room) (fun v h' S => h = h' ∧ v = some (.int r))) T 0 #[.val (.ref y), .val (.int (Int32.ofNat n))] []
  have hN := F.small
  refine blk (pc' := 2) (Ls' := #[.val (.ref y), .val (.int (Int32.ofNat n))]) (st' := [(.ref y), (.int (Int32.ofNat n))]) [oIloadN w.ok (dc.g 0 rfl), oAloadN w.ok (dc.g 1 rfl)] rfl ?_
  refine w.len F (dc.g 2 rfl) ?_
  show Go κ _ T 3 #[.val (.ref y), .val (.int (Int32.ofNat n))] [(.int (Int32.ofNat vs.length)), (.int (Int32.ofNat n))]
  refine blk (pc' := 8) (Ls' := #[.val (.ref y), .val (.int (Int32.ofNat n))]) (st' := [(.int ((((((Int32.ofNat n) - (Int32.ofNat vs.length))).toUInt32 >>> ((31 : Int32) &&& 31).toUInt32).toInt32).toInt8.toInt32))]) [oIsub w.ok (dc.g 3 rfl), oBipush w.ok (dc.g 4 rfl), oIushr w.ok (dc.g 5 rfl), oI2b w.ok (dc.g 6 rfl)] rfl ?_
  have e : ((((((Int32.ofNat n) - (Int32.ofNat vs.length))).toUInt32 >>> ((31 : Int32) &&& 31).toUInt32).toInt32).toInt8.toInt32) = r := by
    rcases hm with ⟨q, rfl⟩ | ⟨q, q0, rfl⟩
    · rw [q]; exact cod0
    · rw [q] at hN ⊢; exact cod1 q0 hN
  rw [e]
  show Go κ _ T 8 #[.val (.ref y), .val (.int (Int32.ofNat n))] [(.int r)]
  exact w.retI (t := .byte) rfl (Or.inr (Or.inr (Or.inl rfl))) (by rcases hm with ⟨q, rfl⟩ | ⟨q, q0, rfl⟩ <;> rfl) (dc.g 7 rfl) (by decide) (by decide) (fun S hS => ⟨rfl, rfl⟩)
def D_si4 : List (Nat × Instr × Nat) := [(0, .aload_n 0, 1), (1, .invokespecial 1, 3), (4, .iload_n 3, 1), (5, .ifCond .ne 22, 3), (8, .aload_n 0, 1), (9, .ldc 7, 2), (11, .getfield 9, 3), (14, .putfield 9, 3), (17, .aload_n 0, 1), (18, .ldc 7, 2), (20, .getfield 15, 3), (23, .putfield 15, 3), (26, .return_, 1), (27, .getstatic 38, 3), (30, .ifCond .eq 28, 3), (33, .aload_n 1, 1), (34, .iload_n 2, 1), (35, .iload_n 3, 1), (36, .invokestatic 177, 3), (39, .astore 5, 2), (41, .aload_n 0, 1), (42, .aload 5, 2), (44, .iload_n 3, 1), (45, .invokestatic 47, 3), (48, .putfield 15, 3), (51, .aload_n 0, 1), (52, .aload 5, 2), (54, .putfield 9, 3), (57, .return_, 1), (58, .aload_n 0, 1), (59, .iconst 1, 1), (60, .putfield 15, 3), (63, .aload_n 0, 1), (64, .aload_n 1, 1), (65, .iload_n 2, 1), (66, .iload_n 3, 1), (67, .invokestatic 180, 3), (70, .putfield 9, 3), (73, .return_, 1)]
theorem hD_si4 : ∀ q ∈ D_si4, decode jdk_42_method_149_code q.1 = .ok q.2 := by decide +kernel
set_option maxRecDepth 65536 in
set_option maxHeartbeats 4000000 in
theorem c_si4 (l : Launch) (Z : State) (a0 : Array Value) (hw : ∀ d ∈ tables_1, d.before a0 Z = true) (hEL : EW Z a0 consts_1) (hJS : JS Z) {x A : Addr} {cs : List Int32} {h : Heap} (oz : Ext Z.heap h) (X : Exa Z h x "java/lang/String") (FV : Fld Z h x "java/lang/String" "value" "[B" .null) (FC : Fld Z h x "java/lang/String" "coder" "B" (.int 0)) (hx0 : Z.heap.size ≤ x) (FA : Ary Z h A .char cs) (hn : cs.length ≤ 9) (hL : IsL cs) : Ctr l Z consts_1 (⟨"java/lang/String", "<init>", "([CIILjava/lang/Void;)V"⟩ : MethodName) jdk_42_method_149_code 6 none [] ({ frames := 2, cells := 4, slots := 9, locals := 36 } : Room) [x] #[(.ref x), (.ref A), (.int (0 : Int32)), (.int (Int32.ofNat cs.length)), .null] h (fun v h' S => v = none ∧ Keep h h' [x] ∧ Str Z h' x cs) := by
  refine enter (a0 := a0) (by first | (simp [plainName, overriddenIn]; done) | decide +kernel) hEL (Ls := #[.val (.ref x), .val (.ref A), .val (.int (0 : Int32)), .val (.int (Int32.ofNat cs.length)), .val .null, .unset]) (fun m => by first | (simp [entryFrame, mkF, argsToLocals, Value.category]; done) | rfl) ?_
  intro κ vm T hby hs w Sf
  have dc := Dec.of hby hD_si4
  show Go κ (GQ κ Z consts_1 ({ frames := 2, cells := 4, slots := 9, locals := 36 } : Room) (fun v h' S => v = none ∧ Keep h h' [x] ∧ Str Z h' x cs)) T 0 #[.val (.ref x), .val (.ref A), .val (.int (0 : Int32)), .val (.int (Int32.ofNat cs.length)), .val .null, .unset] []
  have ozs : Ext Z.heap κ.s.heap := by rw [hs]; exact oz
  have S0 := Sf x (List.mem_singleton.mpr rfl)
  have hIC := FA.isC
  refine blk (pc' := 1) (Ls' := #[.val (.ref x), .val (.ref A), .val (.int (0 : Int32)), .val (.int (Int32.ofNat cs.length)), .val .null, .unset]) (st' := [(.ref x)]) [oAloadN w.ok (dc.g 0 rfl)] rfl ?_
  refine w.initO (wd hw 59 rfl) (wd hw 60 rfl) (wd hw 61 rfl) rfl (dc.g 1 rfl) (by decide) (Wd := 0) (Nat.le_of_eq rfl) (by decide) ?_
  intro T26 w27
  show Go κ _ T26 4 #[.val (.ref x), .val (.ref A), .val (.int (0 : Int32)), .val (.int (Int32.ofNat cs.length)), .val .null, .unset] []
  refine blk (pc' := 5) (Ls' := #[.val (.ref x), .val (.ref A), .val (.int (0 : Int32)), .val (.int (Int32.ofNat cs.length)), .val .null, .unset]) (st' := [(.int (Int32.ofNat cs.length))]) [oIloadN w27.ok (dc.g 2 rfl)] rfl ?_
  refine zNe (pc' := 27) w27.ok (dc.g 3 rfl) (by decide) (by decide) (fun hc28 => ?_) (fun hc28 => ?_)
  · show Go κ _ T26 27 #[.val (.ref x), .val (.ref A), .val (.int (0 : Int32)), .val (.int (Int32.ofNat cs.length)), .val .null, .unset] []
    have hpos : 0 < cs.length := Nat.pos_of_ne_zero fun q => hc28 (by rw [q]; rfl)
    obtain ⟨⟨zc, hcs, hcz⟩, -⟩ := id hJS
    refine w27.gets (wd hw 23 rfl) (hcs.ext (w27.old ozs)) (dc.g 13 rfl) ?_
    intro T29 w30
    show Go κ _ T29 30 #[.val (.ref x), .val (.ref A), .val (.int (0 : Int32)), .val (.int (Int32.ofNat cs.length)), .val .null, .unset] [(.int zc)]
    refine zEq (pc' := 58) w30.ok (dc.g 14 rfl) (by decide) (by decide) (fun hc31 => absurd hc31 hcz) (fun hc31 => ?_)
    show Go κ _ T29 33 #[.val (.ref x), .val (.ref A), .val (.int (0 : Int32)), .val (.int (Int32.ofNat cs.length)), .val .null, .unset] []
    refine blk (pc' := 36) (Ls' := #[.val (.ref x), .val (.ref A), .val (.int (0 : Int32)), .val (.int (Int32.ofNat cs.length)), .val .null, .unset]) (st' := [(.int (Int32.ofNat cs.length)), (.int (0 : Int32)), (.ref A)]) [oAloadN w30.ok (dc.g 15 rfl), oIloadN w30.ok (dc.g 16 rfl), oIloadN w30.ok (dc.g 17 rfl)] rfl ?_
    refine w30.callS (wd hw 62 rfl) (wd hw 63 rfl) (wd hw 64 rfl) (wd hw 65 rfl) (by decide) (argsL := [(.ref A), (.int (0 : Int32)), (.int (Int32.ofNat cs.length))]) (Wd := 0) (Ctr.pays (len := 3) (Wd := 0) (c_cmp3 l Z a0 hw hEL hJS (w30.old ozs) FA hn hL) w30 (wd hw 65 rfl) (wd hw 64 rfl) hEL (by decide) (by decide) sfNil) pd1 rfl (st := []) rfl rfl (Nat.le_of_eq rfl) (dc.g 18 rfl) (by decide) (by decide) ?_
    intro vm32 T33 h34 v35 w36 C37 Q38
    obtain ⟨K2, y, rfl, hy⟩ := Q38
    show Go κ _ T33 39 #[.val (.ref x), .val (.ref A), .val (.int (0 : Int32)), .val (.int (Int32.ofNat cs.length)), .val .null, .unset] [(.ref y)]
    refine blk (pc' := 45) (Ls' := #[.val (.ref x), .val (.ref A), .val (.int (0 : Int32)), .val (.int (Int32.ofNat cs.length)), .val .null, .val (.ref y)]) (st' := [(.int (Int32.ofNat cs.length)), (.ref y), (.ref x)]) [oAstore w36.ok (dc.g 19 rfl), oAloadN w36.ok (dc.g 20 rfl), oAload w36.ok (dc.g 21 rfl), oIloadN w36.ok (dc.g 22 rfl)] rfl ?_
    obtain ⟨vs, r, FY, hm, hst⟩ : ∃ (vs : List Int32) (r : Int32), Ary Z h34 y .byte vs ∧ ((vs.length = cs.length ∧ r = 0) ∨ (vs.length = 2 * cs.length ∧ 0 < cs.length ∧ r = 1)) ∧ ((IsL cs ∧ r = 0 ∧ vs = cs.map lo8) ∨ (¬ IsL cs ∧ r = 1 ∧ vs = u16 cs)) := by
      rcases hy with ⟨q1, q2⟩ | ⟨q1, q2⟩
      · exact ⟨_, 0, q2, Or.inl ⟨by simp, rfl⟩, Or.inl ⟨q1, rfl, rfl⟩⟩
      · exact ⟨_, 1, q2, Or.inr ⟨u16_len _, hpos, rfl⟩, Or.inr ⟨q1, rfl, rfl⟩⟩
    have hr : narrow .byte (.int r) = .int r ∧ fits .byte (.int r) = true := by rcases hm with ⟨-, rfl⟩ | ⟨-, -, rfl⟩ <;> exact ⟨rfl, rfl⟩
    refine w36.callS (wd hw 69 rfl) (wd hw 70 rfl) (wd hw 64 rfl) (wd hw 71 rfl) (by decide) (argsL := [(.ref y), (.int (Int32.ofNat cs.length))]) (Wd := 1) (Ctr.pays (len := 3) (Wd := 1) (c_codl l Z a0 hw hEL hJS FY hm) w36 (wd hw 71 rfl) (wd hw 64 rfl) hEL (by decide) (by decide) sfNil) pd2 rfl (st := [(.ref x)]) rfl rfl (Nat.le_of_eq rfl) (dc.g 23 rfl) (by decide) (by decide) ?_
    intro vm39 T40 h41 v42 w43 C44 Q45
    obtain ⟨e3, rfl⟩ := Q45
    subst e3
    show Go κ _ T40 48 #[.val (.ref x), .val (.ref A), .val (.int (0 : Int32)), .val (.int (Int32.ofNat cs.length)), .val .null, .val (.ref y)] [(.int r), (.ref x)]
    have S1 := C44.safe (Nat.lt_of_lt_of_le X.lt K2.1) (C37.safe X.lt S0)
    have X1 := X.keep K2
    have FC1 := FC.keep K2 nin0
    have FV1 := FV.keep K2 nin0
    have hyx : y ≠ x := FY.ne_exa X1 (wd hw 2 rfl)
    refine w43.put (wd hw 24 rfl) FC1 X1 (Or.inr ⟨(wd hw 5 rfl), rfl, rfl⟩) (wd hw 2 rfl) (ty := .byte) (by decide) (hr).1 (hr).2 S1 hx0 (dc.g 24 rfl) ?_
    intro T46 h48 w47 W49 S50
    show Go κ _ T46 51 #[.val (.ref x), .val (.ref A), .val (.int (0 : Int32)), .val (.int (Int32.ofNat cs.length)), .val .null, .val (.ref y)] []
    have X2 := X1.wr W49
    have FV2 := FV1.other W49 (Or.inr (slot_ne (Or.inr (wd hw 4 rfl)) (Or.inr (wd hw 5 rfl)) (by decide) (t := .array .byte) (by decide) (t' := .byte) (by decide)))
    have FC2 : Fld Z h48 x "java/lang/String" "coder" "B" (.int r) := FC1.same W49
    have FY2 := FY.other W49 hyx
    refine blk (pc' := 54) (Ls' := #[.val (.ref x), .val (.ref A), .val (.int (0 : Int32)), .val (.int (Int32.ofNat cs.length)), .val .null, .val (.ref y)]) (st' := [(.ref y), (.ref x)]) [oAloadN w47.ok (dc.g 25 rfl), oAload w47.ok (dc.g 26 rfl)] rfl ?_
    refine w47.put (wd hw 17 rfl) FV2 X2 (Or.inr ⟨(wd hw 4 rfl), rfl, rfl⟩) (wd hw 2 rfl) (ty := (.array .byte)) (by decide) rfl rfl S50 hx0 (dc.g 27 rfl) ?_
    intro T51 h53 w52 W54 S55
    show Go κ _ T51 57 #[.val (.ref x), .val (.ref A), .val (.int (0 : Int32)), .val (.int (Int32.ofNat cs.length)), .val .null, .val (.ref y)] []
    have X3 := X2.wr W54
    have FC3 := FC2.other W54 (Or.inr (slot_ne (Or.inr (wd hw 5 rfl)) (Or.inr (wd hw 4 rfl)) (by decide) (t := .byte) (by decide) (t' := .array .byte) (by decide)))
    have FV3 : Fld Z h53 x "java/lang/String" "value" "[B" (.ref y) := FV2.same W54
    have FY3 := FY2.other W54 hyx
    exact w52.retV (dc.g 28 rfl) (by decide) (by decide) (fun S hS => ⟨rfl, ((((Keep.refl h [x]).trans K2 all0).wr W49 (Or.inl (List.mem_of_getElem? (i := 0) rfl))).wr W54 (Or.inl (List.mem_of_getElem? (i := 0) rfl))), y, X3, FV3, hIC, by omega, by rcases hst with ⟨q1, rfl, rfl⟩ | ⟨q1, rfl, rfl⟩ <;> first | exact Or.inl ⟨q1, FC3, FY3⟩ | exact Or.inr ⟨q1, FC3, FY3⟩⟩)
  · show Go κ _ T26 8 #[.val (.ref x), .val (.ref A), .val (.int (0 : Int32)), .val (.int (Int32.ofNat cs.length)), .val .null, .unset] []
    have e0 : cs = [] := by have := hn; cases cs with | nil => rfl | cons c cs => exact absurd hc28 (by rw [show (0 : Int32) = Int32.ofNat 0 from rfl, ofNat_inj (by simp at this ⊢; omega) (by decide)]; simp)
    subst e0
    refine blk (pc' := 9) (Ls' := #[.val (.ref x), .val (.ref A), .val (.int (0 : Int32)), .val (.int (Int32.ofNat ([] : List Int32).length)), .val .null, .unset]) (st' := [(.ref x)]) [oAloadN w27.ok (dc.g 4 rfl)] rfl ?_
    refine w27.ldcC (wd hw 88 rfl) (own_str hw) hEL (by decide) (vs := []) (by decide) (by decide) (dc.g 5 rfl) (c := 0) (by decide) (by decide) (by decide) (by decide) ?_
    intro vm56 T57 h58 a59 b60 w61 E62 C63 f64 f65 f66 f67 f68
    show Go κ _ T57 11 #[.val (.ref x), .val (.ref A), .val (.int (0 : Int32)), .val (.int (Int32.ofNat ([] : List Int32).length)), .val .null, .unset] [(.ref a59), (.ref x)]
    have S1 := C63.safe X.lt S0
    refine w61.get (wd hw 17 rfl) f66 (dc.g 6 rfl) ?_
    intro T69 w70
    show Go κ _ T69 14 #[.val (.ref x), .val (.ref A), .val (.int (0 : Int32)), .val (.int (Int32.ofNat ([] : List Int32).length)), .val .null, .unset] [(.ref b60), (.ref x)]
    have X1 := X.ext E62
    refine w70.put (wd hw 17 rfl) (FV.ext E62) X1 (Or.inr ⟨(wd hw 4 rfl), rfl, rfl⟩) (wd hw 2 rfl) (ty := (.array .byte)) (by decide) rfl rfl S1 hx0 (dc.g 7 rfl) ?_
    intro T71 h73 w72 W74 S75
    show Go κ _ T71 17 #[.val (.ref x), .val (.ref A), .val (.int (0 : Int32)), .val (.int (Int32.ofNat ([] : List Int32).length)), .val .null, .unset] []
    have hne := f68 x S1
    have X2 := X1.wr W74
    have FV2 : Fld Z h73 x "java/lang/String" "value" "[B" (.ref b60) := (FV.ext E62).same W74
    have FC2 := (FC.ext E62).other W74 (Or.inr (slot_ne (Or.inr (wd hw 5 rfl)) (Or.inr (wd hw 4 rfl)) (by decide) (t := .byte) (by decide) (t' := .array .byte) (by decide)))
    have FB2 := f67.other W74 (Ne.symm hne.2)
    have S2 := S75
    refine blk (pc' := 18) (Ls' := #[.val (.ref x), .val (.ref A), .val (.int (0 : Int32)), .val (.int (Int32.ofNat ([] : List Int32).length)), .val .null, .unset]) (st' := [(.ref x)]) [oAloadN w72.ok (dc.g 8 rfl)] rfl ?_
    refine w72.ldcC (wd hw 88 rfl) (own_str hw) hEL (by decide) (vs := []) (by decide) (by decide) (dc.g 9 rfl) (c := 0) (by decide) (by decide) (by decide) (by decide) ?_
    intro vm76 T77 h78 a79 b80 w81 E82 C83 f84 f85 f86 f87 f88
    show Go κ _ T77 20 #[.val (.ref x), .val (.ref A), .val (.int (0 : Int32)), .val (.int (Int32.ofNat ([] : List Int32).length)), .val .null, .unset] [(.ref a79), (.ref x)]
    have S3 := C83.safe X2.lt S2
    refine w81.get (wd hw 24 rfl) f85 (dc.g 10 rfl) ?_
    intro T89 w90
    show Go κ _ T89 23 #[.val (.ref x), .val (.ref A), .val (.int (0 : Int32)), .val (.int (Int32.ofNat ([] : List Int32).length)), .val .null, .unset] [(.int (0 : Int32)), (.ref x)]
    have X3 := X2.ext E82
    refine w90.put (wd hw 24 rfl) (FC2.ext E82) X3 (Or.inr ⟨(wd hw 5 rfl), rfl, rfl⟩) (wd hw 2 rfl) (ty := .byte) (by decide) rfl rfl S3 hx0 (dc.g 11 rfl) ?_
    intro T91 h93 w92 W94 S95
    show Go κ _ T91 26 #[.val (.ref x), .val (.ref A), .val (.int (0 : Int32)), .val (.int (Int32.ofNat ([] : List Int32).length)), .val .null, .unset] []
    have FC4 : Fld Z h93 x "java/lang/String" "coder" "B" (.int 0) := (FC2.ext E82).same W94
    have FV4 := (FV2.ext E82).other W94 (Or.inr (slot_ne (Or.inr (wd hw 4 rfl)) (Or.inr (wd hw 5 rfl)) (by decide) (t := .array .byte) (by decide) (t' := .byte) (by decide)))
    have hbx : b60 ≠ x := f67.ne_exa X1 (wd hw 2 rfl)
    have FB4 := (FB2.ext E82).other W94 hbx
    exact w92.retV (dc.g 12 rfl) (by decide) (by decide) (fun S hS => ⟨rfl, ((((Keep.refl h [x]).ext E62).wr W74 (Or.inl (List.mem_of_getElem? (i := 0) rfl))).ext E82).wr W94 (Or.inl (List.mem_of_getElem? (i := 0) rfl)), b60, X3.wr W94, FV4, hIC, by decide, Or.inl ⟨(fun c hc => nomatch hc), FC4, FB4⟩⟩)
def D_si1 : List (Nat × Instr × Nat) := [(0, .aload_n 0, 1), (1, .aload_n 1, 1), (2, .iconst 0, 1), (3, .aload_n 1, 1), (4, .arraylength, 1), (5, .aconst_null, 1), (6, .invokespecial 27, 3), (9, .return_, 1)]
theorem hD_si1 : ∀ q ∈ D_si1, decode jdk_42_method_3_code q.1 = .ok q.2 := by decide +kernel
set_option maxRecDepth 65536 in
set_option maxHeartbeats 4000000 in
theorem c_si1 (l : Launch) (Z : State) (a0 : Array Value) (hw : ∀ d ∈ tables_1, d.before a0 Z = true) (hEL : EW Z a0 consts_1) (hJS : JS Z) {x A : Addr} {cs : List Int32} {h : Heap} (oz : Ext Z.heap h) (X : Exa Z h x "java/lang/String") (FV : Fld Z h x "java/lang/String" "value" "[B" .null) (FC : Fld Z h x "java/lang/String" "coder" "B" (.int 0)) (hx0 : Z.heap.size ≤ x) (FA : Ary Z h A .char cs) (hn : cs.length ≤ 9) (hL : IsL cs) : Ctr l Z consts_1 (⟨"java/lang/String", "<init>", "([C)V"⟩ : MethodName) jdk_42_method_3_code 2 none [] ({ frames := 3, cells := 4, slots := 9, locals := 53 } : Room) [x] #[(.ref x), (.ref A)] h (fun v h' S => v = none ∧ Keep h h' [x] ∧ Str Z h' x cs) := by
  refine enter (a0 := a0) (by first | (simp [plainName, overriddenIn]; done) | decide +kernel) hEL (Ls := #[.val (.ref x), .val (.ref A)]) (fun m => by first | (simp [entryFrame, mkF, argsToLocals, Value.category]; done) | rfl) ?_
  intro κ vm T hby hs w Sf
  have dc := Dec.of hby hD_si1
  show Go κ (GQ κ Z consts_1 ({ frames := 3, cells := 4, slots := 9, locals := 53 } : Room) (fun v h' S => v = none ∧ Keep h h' [x] ∧ Str Z h' x cs)) T 0 #[.val (.ref x), .val (.ref A)] []
  refine blk (pc' := 4) (Ls' := #[.val (.ref x), .val (.ref A)]) (st' := [(.ref A), (.int (0 : Int32)), (.ref A), (.ref x)]) [oAloadN w.ok (dc.g 0 rfl), oAloadN w.ok (dc.g 1 rfl), oIconst w.ok (dc.g 2 rfl), oAloadN w.ok (dc.g 3 rfl)] rfl ?_
  refine w.len FA (dc.g 4 rfl) ?_
  show Go κ _ T 5 #[.val (.ref x), .val (.ref A)] [(.int (Int32.ofNat cs.length)), (.int (0 : Int32)), (.ref A), (.ref x)]
  refine blk (pc' := 6) (Ls' := #[.val (.ref x), .val (.ref A)]) (st' := [.null, (.int (Int32.ofNat cs.length)), (.int (0 : Int32)), (.ref A), (.ref x)]) [oAnull w.ok (dc.g 5 rfl)] rfl ?_
  refine w.callI rfl (wd hw 55 rfl) (wd hw 56 rfl) (wd hw 58 rfl) (by decide) (a := x) (argsL := [(.ref A), (.int (0 : Int32)), (.int (Int32.ofNat cs.length)), .null]) (Wd := 0) (Ctr.pays (len := 3) (Wd := 0) (c_si4 l Z a0 hw hEL hJS oz X FV FC hx0 FA hn hL) w (wd hw 58 rfl) (wd hw 1 rfl) hEL (by decide) (by decide) (sfOne X.lt (Sf x (List.mem_singleton.mpr rfl)))) pd3 rfl (st := []) rfl rfl (Nat.le_of_eq rfl) (dc.g 6 rfl) (by decide) (by decide) ?_
  intro vm96 T97 h98 v99 w100 C101 Q102
  obtain ⟨rfl, q2⟩ := Q102
  show Go κ _ T97 9 #[.val (.ref x), .val (.ref A)] []
  exact w100.retV (dc.g 7 rfl) (by decide) (by decide) (fun S hS => ⟨rfl, q2⟩)
def D_coder : List (Nat × Instr × Nat) := [(0, .getstatic 38, 3), (3, .ifCond .eq 10, 3), (6, .aload_n 0, 1), (7, .getfield 15, 3), (10, .goto 4, 3), (13, .iconst 1, 1), (14, .ireturn, 1)]
theorem hD_coder : ∀ q ∈ D_coder, decode jdk_42_method_152_code q.1 = .ok q.2 := by decide +kernel
set_option maxRecDepth 65536 in
set_option maxHeartbeats 4000000 in
theorem c_coder (l : Launch) (Z : State) (a0 : Array Value) (hw : ∀ d ∈ tables_1, d.before a0 Z = true) (hEL : EW Z a0 consts_1) (hJS : JS Z) {a : Addr} {r : Int32} {h : Heap} (oz : Ext Z.heap h) (F : Fld Z h a "java/lang/String" "coder" "B" (.int r)) (hr : r = 0 ∨ r = 1) : Ctr l Z consts_1 (⟨"java/lang/String", "coder", "()B"⟩ : MethodName) jdk_42_method_152_code 1 (some .byte) [] ({ frames := 0, cells := 0, slots := 0, locals := 0 } : Room) [] #[(.ref a)] h (fun v h' S => h = h' ∧ v = some (.int r)) := by
  refine enter (a0 := a0) (by first | (simp [plainName, overriddenIn]; done) | decide +kernel) hEL (Ls := #[.val (.ref a)]) (fun m => by first | (simp [entryFrame, mkF, argsToLocals, Value.category]; done) | rfl) ?_
  intro κ vm T hby hs w Sf
  have dc := Dec.of hby hD_coder
  show Go κ (GQ κ Z consts_1 ({ frames := 0, cells := 0, slots := 0, locals := 0 } : Room) (fun v h' S => h = h' ∧ v = some (.int r))) T 0 #[.val (.ref a)] []
  have ozs : Ext Z.heap κ.s.heap := by rw [hs]; exact oz
  obtain ⟨⟨zc, hcs, hcz⟩, -⟩ := id hJS
  refine w.gets (wd hw 23 rfl) (hcs.ext (w.old ozs)) (dc.g 0 rfl) ?_
  intro T103 w104
  show Go κ _ T103 3 #[.val (.ref a)] [(.int zc)]
  refine zEq (pc' := 13) w104.ok (dc.g 1 rfl) (by decide) (by decide) (fun hc105 => absurd hc105 hcz) (fun hc105 => ?_)
  show Go κ _ T103 6 #[.val (.ref a)] []
  refine blk (pc' := 7) (Ls' := #[.val (.ref a)]) (st' := [(.ref a)]) [oAloadN w104.ok (dc.g 2 rfl)] rfl ?_
  refine w104.get (wd hw 24 rfl) F (dc.g 3 rfl) ?_
  intro T106 w107
  show Go κ _ T106 10 #[.val (.ref a)] [(.int r)]
  refine blk (pc' := 14) (Ls' := #[.val (.ref a)]) (st' := [(.int r)]) [oGoto w107.ok 14 (dc.g 4 rfl)] rfl ?_
  exact w107.retI (t := .byte) rfl (Or.inr (Or.inr (Or.inl rfl))) (by rcases hr with rfl | rfl <;> rfl) (dc.g 6 rfl) (by decide) (by decide) (fun S hS => ⟨rfl, rfl⟩)
def D_len : List (Nat × Instr × Nat) := [(0, .aload_n 0, 1), (1, .getfield 9, 3), (4, .arraylength, 1), (5, .aload_n 0, 1), (6, .invokevirtual 335, 3), (9, .ishr, 1), (10, .ireturn, 1)]
theorem hD_len : ∀ q ∈ D_len, decode jdk_42_method_54_code q.1 = .ok q.2 := by decide +kernel
set_option maxRecDepth 65536 in
set_option maxHeartbeats 4000000 in
theorem c_len (l : Launch) (Z : State) (a0 : Array Value) (hw : ∀ d ∈ tables_1, d.before a0 Z = true) (hEL : EW Z a0 consts_1) (hJS : JS Z) {a : Addr} {cs : List Int32} {h : Heap} (oz : Ext Z.heap h) (F : Str Z h a cs) : Ctr l Z consts_1 (⟨"java/lang/String", "length", "()I"⟩ : MethodName) jdk_42_method_54_code 1 (some .int) [] ({ frames := 1, cells := 0, slots := 0, locals := 13 } : Room) [] #[(.ref a)] h (fun v h' S => h = h' ∧ v = some (.int (Int32.ofNat cs.length))) := by
  refine enter (a0 := a0) (by first | (simp [plainName, overriddenIn]; done) | decide +kernel) hEL (Ls := #[.val (.ref a)]) (fun m => by first | (simp [entryFrame, mkF, argsToLocals, Value.category]; done) | rfl) ?_
  intro κ vm T hby hs w Sf
  have dc := Dec.of hby hD_len
  show Go κ (GQ κ Z consts_1 ({ frames := 1, cells := 0, slots := 0, locals := 13 } : Room) (fun v h' S => h = h' ∧ v = some (.int (Int32.ofNat cs.length)))) T 0 #[.val (.ref a)] []
  have ozs : Ext Z.heap κ.s.heap := by rw [hs]; exact oz
  obtain ⟨y, X, FV, hIC, hlen, hcase⟩ := F
  obtain ⟨vs, r, FY, FC, hr, hm⟩ : ∃ (vs : List Int32) (r : Int32), Ary Z h y .byte vs ∧ Fld Z h a "java/lang/String" "coder" "B" (.int r) ∧ (r = 0 ∨ r = 1) ∧ Int32.ofNat vs.length >>> (r &&& 31) = Int32.ofNat cs.length := by
    rcases hcase with ⟨q1, q2, q3⟩ | ⟨q1, q2, q3⟩
    · exact ⟨_, 0, q3, q2, Or.inl rfl, by rw [shr0, List.length_map]⟩
    · exact ⟨_, 1, q3, q2, Or.inr rfl, by rw [u16_len, ofNat_half (by omega)]⟩
  refine blk (pc' := 1) (Ls' := #[.val (.ref a)]) (st' := [(.ref a)]) [oAloadN w.ok (dc.g 0 rfl)] rfl ?_
  refine w.get (wd hw 17 rfl) FV (dc.g 1 rfl) ?_
  intro T108 w109
  show Go κ _ T108 4 #[.val (.ref a)] [(.ref y)]
  refine w109.len FY (dc.g 2 rfl) ?_
  show Go κ _ T108 5 #[.val (.ref a)] [(.int (Int32.ofNat vs.length))]
  refine blk (pc' := 6) (Ls' := #[.val (.ref a)]) (st' := [(.ref a), (.int (Int32.ofNat vs.length))]) [oAloadN w109.ok (dc.g 3 rfl)] rfl ?_
  refine w109.callV (wd hw 18 rfl) (wd hw 19 rfl) (notFace (wd hw 21 rfl)) (wd hw 21 rfl) (wd hw 20 rfl) (by decide) (a := a) X (argsL := []) (Wd := 1) (Ctr.pays (len := 3) (Wd := 1) (c_coder l Z a0 hw hEL hJS (w109.old ozs) FC hr) w109 (wd hw 22 rfl) (wd hw 1 rfl) hEL (by decide) (by decide) sfNil) pd4 rfl (st := [(.int (Int32.ofNat vs.length))]) rfl rfl (Nat.le_of_eq rfl) (dc.g 4 rfl) (by decide) (by decide) ?_
  intro vm110 T111 h112 v113 w114 C115 Q116
  obtain ⟨e2, rfl⟩ := Q116
  subst e2
  show Go κ _ T111 9 #[.val (.ref a)] [(.int r), (.int (Int32.ofNat vs.length))]
  refine blk (pc' := 10) (Ls' := #[.val (.ref a)]) (st' := [(.int ((Int32.ofNat vs.length) >>> (r &&& 31)))]) [oIshr w114.ok (dc.g 5 rfl)] rfl ?_
  rw [hm]
  show Go κ _ T111 10 #[.val (.ref a)] [(.int (Int32.ofNat cs.length))]
  exact w114.retI (t := .int) rfl (Or.inl rfl) rfl (dc.g 6 rfl) (by decide) (by decide) (fun S hS => ⟨rfl, rfl⟩)
def D_isl : List (Nat × Instr × Nat) := [(0, .getstatic 38, 3), (3, .ifCond .eq 14, 3), (6, .aload_n 0, 1), (7, .getfield 15, 3), (10, .ifCond .ne 7, 3), (13, .iconst 1, 1), (14, .goto 4, 3), (17, .iconst 0, 1), (18, .ireturn, 1)]
theorem hD_isl : ∀ q ∈ D_isl, decode jdk_42_method_154_code q.1 = .ok q.2 := by decide +kernel
set_option maxRecDepth 65536 in
set_option maxHeartbeats 4000000 in
theorem c_isl (l : Launch) (Z : State) (a0 : Array Value) (hw : ∀ d ∈ tables_1, d.before a0 Z = true) (hEL : EW Z a0 consts_1) (hJS : JS Z) {a : Addr} {r : Int32} {h : Heap} (oz : Ext Z.heap h) (F : Fld Z h a "java/lang/String" "coder" "B" (.int r)) : Ctr l Z consts_1 (⟨"java/lang/String", "isLatin1", "()Z"⟩ : MethodName) jdk_42_method_154_code 1 (some .boolean) [] ({ frames := 0, cells := 0, slots := 0, locals := 0 } : Room) [] #[(.ref a)] h (fun v h' S => h = h' ∧ v = some (.int (if r = 0 then 1 else 0))) := by
  refine enter (a0 := a0) (by first | (simp [plainName, overriddenIn]; done) | decide +kernel) hEL (Ls := #[.val (.ref a)]) (fun m => by first | (simp [entryFrame, mkF, argsToLocals, Value.category]; done) | rfl) ?_
  intro κ vm T hby hs w Sf
  have dc := Dec.of hby hD_isl
  show Go κ (GQ κ Z consts_1 ({ frames := 0, cells := 0, slots := 0, locals := 0 } : Room) (fun v h' S => h = h' ∧ v = some (.int (if r = 0 then 1 else 0)))) T 0 #[.val (.ref a)] []
  have ozs : Ext Z.heap κ.s.heap := by rw [hs]; exact oz
  obtain ⟨⟨zc, hcs, hcz⟩, -⟩ := id hJS
  refine w.gets (wd hw 23 rfl) (hcs.ext (w.old ozs)) (dc.g 0 rfl) ?_
  intro T117 w118
  show Go κ _ T117 3 #[.val (.ref a)] [(.int zc)]
  refine zEq (pc' := 17) w118.ok (dc.g 1 rfl) (by decide) (by decide) (fun hc119 => absurd hc119 hcz) (fun hc119 => ?_)
  show Go κ _ T117 6 #[.val (.ref a)] []
  refine blk (pc' := 7) (Ls' := #[.val (.ref a)]) (st' := [(.ref a)]) [oAloadN w118.ok (dc.g 2 rfl)] rfl ?_
  refine w118.get (wd hw 24 rfl) F (dc.g 3 rfl) ?_
  intro T120 w121
  show Go κ _ T120 10 #[.val (.ref a)] [(.int r)]
  refine zNe (pc' := 17) w121.ok (dc.g 4 rfl) (by decide) (by decide) (fun hc122 => ?_) (fun hc122 => ?_)
  · show Go κ _ T120 17 #[.val (.ref a)] []
    refine blk (pc' := 18) (Ls' := #[.val (.ref a)]) (st' := [(.int (0 : Int32))]) [oIconst w121.ok (dc.g 7 rfl)] rfl ?_
    exact w121.retI (t := .boolean) rfl (Or.inr (Or.inl rfl)) rfl (dc.g 8 rfl) (by decide) (by decide) (fun S hS => ⟨rfl, by rw [if_neg hc122]⟩)
  · show Go κ _ T120 13 #[.val (.ref a)] []
    refine blk (pc' := 18) (Ls' := #[.val (.ref a)]) (st' := [(.int (1 : Int32))]) [oIconst w121.ok (dc.g 5 rfl), oGoto w121.ok 18 (dc.g 6 rfl)] rfl ?_
    exact w121.retI (t := .boolean) rfl (Or.inr (Or.inl rfl)) rfl (dc.g 8 rfl) (by decide) (by decide) (fun S hS => ⟨rfl, by rw [if_pos hc122]⟩)
def D_pci : List (Nat × Instr × Nat) := [(0, .iload_n 0, 1), (1, .ifCond .lt 8, 3), (4, .iload_n 0, 1), (5, .iload_n 1, 1), (6, .if_icmp .lt 10, 3), (9, .aload_n 2, 1), (10, .iload_n 0, 1), (11, .iload_n 1, 1), (12, .invokestatic 95, 3), (15, .athrow, 1), (16, .iload_n 0, 1), (17, .ireturn, 1)]
theorem hD_pci : ∀ q ∈ D_pci, decode jdk_41_method_11_code q.1 = .ok q.2 := by decide +kernel
set_option maxRecDepth 65536 in
set_option maxHeartbeats 4000000 in
theorem c_pci (l : Launch) (Z : State) (a0 : Array Value) (hw : ∀ d ∈ tables_1, d.before a0 Z = true) (hEL : EW Z a0 consts_1) (hJS : JS Z) {i n : Nat} {f : Value} {h : Heap} (hi : i < n) (hn : n < 2147483648) (hf : f.isRef = true) : Ctr l Z consts_1 (⟨"jdk/internal/util/Preconditions", "checkIndex", "(IILjava/util/function/BiFunction;)I"⟩ : MethodName) jdk_41_method_11_code 3 (some .int) [] ({ frames := 0, cells := 0, slots := 0, locals := 0 } : Room) [] #[(.int (Int32.ofNat i)), (.int (Int32.ofNat n)), f] h (fun v h' S => h = h' ∧ v = some (.int (Int32.ofNat i))) := by
  refine enter (a0 := a0) (by first | (simp [plainName, overriddenIn]; done) | decide +kernel) hEL (Ls := #[.val (.int (Int32.ofNat i)), .val (.int (Int32.ofNat n)), .val f]) (fun m => by first | (cases f <;> first | (simp [entryFrame, mkF, argsToLocals, Value.category]; done) | (simp [Value.isRef] at hf; done)) | (simp [entryFrame, mkF, argsToLocals, Value.category]; done) | rfl) ?_
  intro κ vm T hby hs w Sf
  have dc := Dec.of hby hD_pci
  show Go κ (GQ κ Z consts_1 ({ frames := 0, cells := 0, slots := 0, locals := 0 } : Room) (fun v h' S => h = h' ∧ v = some (.int (Int32.ofNat i)))) T 0 #[.val (.int (Int32.ofNat i)), .val (.int (Int32.ofNat n)), .val f] []
  refine blk (pc' := 1) (Ls' := #[.val (.int (Int32.ofNat i)), .val (.int (Int32.ofNat n)), .val f]) (st' := [(.int (Int32.ofNat i))]) [oIloadN w.ok (dc.g 0 rfl)] rfl ?_
  refine zLt (pc' := 9) w.ok (dc.g 1 rfl) (by decide) (by decide) (fun hc123 => absurd hc123 (nneg_ofNat (by omega))) (fun hc123 => ?_)
  show Go κ _ T 4 #[.val (.int (Int32.ofNat i)), .val (.int (Int32.ofNat n)), .val f] []
  refine blk (pc' := 6) (Ls' := #[.val (.int (Int32.ofNat i)), .val (.int (Int32.ofNat n)), .val f]) (st' := [(.int (Int32.ofNat n)), (.int (Int32.ofNat i))]) [oIloadN w.ok (dc.g 2 rfl), oIloadN w.ok (dc.g 3 rfl)] rfl ?_
  refine cLt (pc' := 16) w.ok (dc.g 4 rfl) (by decide) (by decide) (fun hc124 => ?_) (fun hc124 => absurd ((ofNat_lt (by omega) hn).mpr hi) hc124)
  show Go κ _ T 16 #[.val (.int (Int32.ofNat i)), .val (.int (Int32.ofNat n)), .val f] []
  refine blk (pc' := 17) (Ls' := #[.val (.int (Int32.ofNat i)), .val (.int (Int32.ofNat n)), .val f]) (st' := [(.int (Int32.ofNat i))]) [oIloadN w.ok (dc.g 10 rfl)] rfl ?_
  exact w.retI (t := .int) rfl (Or.inl rfl) rfl (dc.g 11 rfl) (by decide) (by decide) (fun S hS => ⟨rfl, rfl⟩)
def D_sci : List (Nat × Instr × Nat) := [(0, .iload_n 0, 1), (1, .iload_n 1, 1), (2, .getstatic 1053, 3), (5, .invokestatic 1059, 3), (8, .pop, 1), (9, .return_, 1)]
theorem hD_sci : ∀ q ∈ D_sci, decode jdk_42_method_155_code q.1 = .ok q.2 := by decide +kernel
set_option maxRecDepth 65536 in
set_option maxHeartbeats 4000000 in
theorem c_sci (l : Launch) (Z : State) (a0 : Array Value) (hw : ∀ d ∈ tables_1, d.before a0 Z = true) (hEL : EW Z a0 consts_1) (hJS : JS Z) {i n : Nat} {h : Heap} (oz : Ext Z.heap h) (hi : i < n) (hn : n < 2147483648) : Ctr l Z consts_1 (⟨"java/lang/String", "checkIndex", "(II)V"⟩ : MethodName) jdk_42_method_155_code 2 none [] ({ frames := 1, cells := 0, slots := 0, locals := 14 } : Room) [] #[(.int (Int32.ofNat i)), (.int (Int32.ofNat n))] h (fun v h' S => h = h' ∧ v = none) := by
  refine enter (a0 := a0) (by first | (simp [plainName, overriddenIn]; done) | decide +kernel) hEL (Ls := #[.val (.int (Int32.ofNat i)), .val (.int (Int32.ofNat n))]) (fun m => by first | (simp [entryFrame, mkF, argsToLocals, Value.category]; done) | rfl) ?_
  intro κ vm T hby hs w Sf
  have dc := Dec.of hby hD_sci
  show Go κ (GQ κ Z consts_1 ({ frames := 1, cells := 0, slots := 0, locals := 14 } : Room) (fun v h' S => h = h' ∧ v = none)) T 0 #[.val (.int (Int32.ofNat i)), .val (.int (Int32.ofNat n))] []
  have ozs : Ext Z.heap κ.s.heap := by rw [hs]; exact oz
  obtain ⟨-, f, hfs, hf⟩ := id hJS
  refine blk (pc' := 2) (Ls' := #[.val (.int (Int32.ofNat i)), .val (.int (Int32.ofNat n))]) (st' := [(.int (Int32.ofNat n)), (.int (Int32.ofNat i))]) [oIloadN w.ok (dc.g 0 rfl), oIloadN w.ok (dc.g 1 rfl)] rfl ?_
  refine w.gets (wd hw 42 rfl) (hfs.ext (w.old ozs)) (dc.g 2 rfl) ?_
  intro T125 w126
  show Go κ _ T125 5 #[.val (.int (Int32.ofNat i)), .val (.int (Int32.ofNat n))] [f, (.int (Int32.ofNat n)), (.int (Int32.ofNat i))]
  refine w126.callS (wd hw 44 rfl) (wd hw 45 rfl) (wd hw 43 rfl) (wd hw 46 rfl) (by decide) (argsL := [(.int (Int32.ofNat i)), (.int (Int32.ofNat n)), f]) (Wd := 0) (Ctr.pays (len := 3) (Wd := 0) (c_pci l Z a0 hw hEL hJS hi hn hf) w126 (wd hw 46 rfl) (wd hw 43 rfl) hEL (by decide) (by decide) sfNil) pd5 rfl (st := []) rfl rfl (Nat.le_of_eq rfl) (dc.g 3 rfl) (by decide) (by decide) ?_
  intro vm127 T128 h129 v130 w131 C132 Q133
  obtain ⟨e2, rfl⟩ := Q133
  subst e2
  show Go κ _ T128 8 #[.val (.int (Int32.ofNat i)), .val (.int (Int32.ofNat n))] [(.int (Int32.ofNat i))]
  refine blk (pc' := 9) (Ls' := #[.val (.int (Int32.ofNat i)), .val (.int (Int32.ofNat n))]) (st' := []) [oPop w131.ok (dc.g 4 rfl)] rfl ?_
  exact w131.retV (dc.g 5 rfl) (by decide) (by decide) (fun S hS => ⟨rfl, rfl⟩)
def D_lca : List (Nat × Instr × Nat) := [(0, .iload_n 1, 1), (1, .aload_n 0, 1), (2, .arraylength, 1), (3, .invokestatic 9, 3), (6, .aload_n 0, 1), (7, .iload_n 1, 1), (8, .baload, 1), (9, .sipush 255, 3), (12, .iand, 1), (13, .i2c, 1), (14, .ireturn, 1)]
theorem hD_lca : ∀ q ∈ D_lca, decode jdk_43_method_2_code q.1 = .ok q.2 := by decide +kernel
set_option maxRecDepth 65536 in
set_option maxHeartbeats 4000000 in
theorem c_lca (l : Launch) (Z : State) (a0 : Array Value) (hw : ∀ d ∈ tables_1, d.before a0 Z = true) (hEL : EW Z a0 consts_1) (hJS : JS Z) {y : Addr} {i : Nat} {c : Int32} {cs : List Int32} {h : Heap} (oz : Ext Z.heap h) (F : Ary Z h y .byte (cs.map lo8)) (hL : IsL cs) (hi : cs[i]? = some c) : Ctr l Z consts_1 (⟨"java/lang/StringLatin1", "charAt", "([BI)C"⟩ : MethodName) jdk_43_method_2_code 2 (some .char) [] ({ frames := 2, cells := 0, slots := 0, locals := 27 } : Room) [] #[(.ref y), (.int (Int32.ofNat i))] h (fun v h' S => h = h' ∧ v = some (.int c)) := by
  refine enter (a0 := a0) (by first | (simp [plainName, overriddenIn]; done) | decide +kernel) hEL (Ls := #[.val (.ref y), .val (.int (Int32.ofNat i))]) (fun m => by first | (simp [entryFrame, mkF, argsToLocals, Value.category]; done) | rfl) ?_
  intro κ vm T hby hs w Sf
  have dc := Dec.of hby hD_lca
  show Go κ (GQ κ Z consts_1 ({ frames := 2, cells := 0, slots := 0, locals := 27 } : Room) (fun v h' S => h = h' ∧ v = some (.int c))) T 0 #[.val (.ref y), .val (.int (Int32.ofNat i))] []
  have ozs : Ext Z.heap κ.s.heap := by rw [hs]; exact oz
  have hN := F.small
  have hl := (List.getElem?_eq_some_iff.mp hi).1
  have hcc := hL c (List.mem_of_getElem? hi)
  have hcd := hL.isC c (List.mem_of_getElem? hi)
  refine blk (pc' := 2) (Ls' := #[.val (.ref y), .val (.int (Int32.ofNat i))]) (st' := [(.ref y), (.int (Int32.ofNat i))]) [oIloadN w.ok (dc.g 0 rfl), oAloadN w.ok (dc.g 1 rfl)] rfl ?_
  refine w.len F (dc.g 2 rfl) ?_
  show Go κ _ T 3 #[.val (.ref y), .val (.int (Int32.ofNat i))] [(.int (Int32.ofNat (cs.map lo8).length)), (.int (Int32.ofNat i))]
  refine w.callS (wd hw 39 rfl) (wd hw 40 rfl) (wd hw 1 rfl) (wd hw 41 rfl) (by decide) (argsL := [(.int (Int32.ofNat i)), (.int (Int32.ofNat (cs.map lo8).length))]) (Wd := 0) (Ctr.pays (len := 3) (Wd := 0) (c_sci l Z a0 hw hEL hJS (w.old ozs) (by simpa using hl) hN) w (wd hw 41 rfl) (wd hw 1 rfl) hEL (by decide) (by decide) sfNil) pd6 rfl (st := []) rfl rfl (Nat.le_of_eq rfl) (dc.g 3 rfl) (by decide) (by decide) ?_
  intro vm134 T135 h136 v137 w138 C139 Q140
  obtain ⟨e2, rfl⟩ := Q140
  subst e2
  show Go κ _ T135 6 #[.val (.ref y), .val (.int (Int32.ofNat i))] []
  refine blk (pc' := 8) (Ls' := #[.val (.ref y), .val (.int (Int32.ofNat i))]) (st' := [(.int (Int32.ofNat i)), (.ref y)]) [oAloadN w138.ok (dc.g 4 rfl), oIloadN w138.ok (dc.g 5 rfl)] rfl ?_
  refine w138.bld F (i := i) rfl (by rw [List.getElem?_map, hi]; rfl) (dc.g 6 rfl) ?_
  show Go κ _ T135 9 #[.val (.ref y), .val (.int (Int32.ofNat i))] [(.int (lo8 c))]
  refine blk (pc' := 14) (Ls' := #[.val (.ref y), .val (.int (Int32.ofNat i))]) (st' := [(.int ((((lo8 c) &&& (255 : Int32))).toUInt32.toUInt16.toUInt32.toInt32))]) [oSipush w138.ok (dc.g 7 rfl), oIand w138.ok (dc.g 8 rfl), oI2c w138.ok (dc.g 9 rfl)] rfl ?_
  rw [lo8_and hcc.1 hcc.2, char_of hcd.1 hcd.2]
  show Go κ _ T135 14 #[.val (.ref y), .val (.int (Int32.ofNat i))] [(.int c)]
  exact w138.retI (t := .char) rfl (Or.inr (Or.inr (Or.inr (Or.inl rfl)))) (narrow_char hcd.1 hcd.2) (dc.g 10 rfl) (by decide) (by decide) (fun S hS => ⟨rfl, rfl⟩)
def D_cha : List (Nat × Instr × Nat) := [(0, .aload_n 0, 1), (1, .invokevirtual 492, 3), (4, .ifCond .eq 12, 3), (7, .aload_n 0, 1), (8, .getfield 9, 3), (11, .iload_n 1, 1), (12, .invokestatic 495, 3), (15, .ireturn, 1), (16, .aload_n 0, 1), (17, .getfield 9, 3), (20, .iload_n 1, 1), (21, .invokestatic 498, 3), (24, .ireturn, 1)]
theorem hD_cha : ∀ q ∈ D_cha, decode jdk_42_method_56_code q.1 = .ok q.2 := by decide +kernel
set_option maxRecDepth 65536 in
set_option maxHeartbeats 4000000 in
theorem c_cha (l : Launch) (Z : State) (a0 : Array Value) (hw : ∀ d ∈ tables_1, d.before a0 Z = true) (hEL : EW Z a0 consts_1) (hJS : JS Z) {a : Addr} {i : Nat} {c : Int32} {cs : List Int32} {h : Heap} (oz : Ext Z.heap h) (F : Str Z h a cs) (hi : cs[i]? = some c) (hL : IsL cs) : Ctr l Z consts_1 (⟨"java/lang/String", "charAt", "(I)C"⟩ : MethodName) jdk_42_method_56_code 2 (some .char) [] ({ frames := 3, cells := 0, slots := 0, locals := 41 } : Room) [] #[(.ref a), (.int (Int32.ofNat i))] h (fun v h' S => h = h' ∧ v = some (.int c)) := by
  refine enter (a0 := a0) (by first | (simp [plainName, overriddenIn]; done) | decide +kernel) hEL (Ls := #[.val (.ref a), .val (.int (Int32.ofNat i))]) (fun m => by first | (simp [entryFrame, mkF, argsToLocals, Value.category]; done) | rfl) ?_
  intro κ vm T hby hs w Sf
  have dc := Dec.of hby hD_cha
  show Go κ (GQ κ Z consts_1 ({ frames := 3, cells := 0, slots := 0, locals := 41 } : Room) (fun v h' S => h = h' ∧ v = some (.int c))) T 0 #[.val (.ref a), .val (.int (Int32.ofNat i))] []
  have ozs : Ext Z.heap κ.s.heap := by rw [hs]; exact oz
  obtain ⟨y, X, FV, hIC, hlen, hcase⟩ := F
  have hcd := hIC c (List.mem_of_getElem? hi)
  rcases hcase with ⟨q1, q2, q3⟩ | ⟨q1, q2, q3⟩
  · show Go κ _ T 0 #[.val (.ref a), .val (.int (Int32.ofNat i))] []
    refine blk (pc' := 1) (Ls' := #[.val (.ref a), .val (.int (Int32.ofNat i))]) (st' := [(.ref a)]) [oAloadN w.ok (dc.g 0 rfl)] rfl ?_
    refine w.callV (wd hw 30 rfl) (wd hw 31 rfl) (notFace (wd hw 33 rfl)) (wd hw 33 rfl) (wd hw 32 rfl) (by decide) (a := a) X (argsL := []) (Wd := 0) (Ctr.pays (len := 3) (Wd := 0) (c_isl l Z a0 hw hEL hJS (w.old ozs) q2) w (wd hw 34 rfl) (wd hw 1 rfl) hEL (by decide) (by decide) sfNil) pd7 rfl (st := []) rfl rfl (Nat.le_of_eq rfl) (dc.g 1 rfl) (by decide) (by decide) ?_
    intro vm141 T142 h143 v144 w145 C146 Q147
    obtain ⟨e2, rfl⟩ := Q147
    subst e2
    show Go κ _ T142 4 #[.val (.ref a), .val (.int (Int32.ofNat i))] [(.int (1 : Int32))]
    refine zEq (pc' := 16) w145.ok (dc.g 2 rfl) (by decide) (by decide) (fun hc148 => absurd hc148 (by decide)) (fun hc148 => ?_)
    show Go κ _ T142 7 #[.val (.ref a), .val (.int (Int32.ofNat i))] []
    refine blk (pc' := 8) (Ls' := #[.val (.ref a), .val (.int (Int32.ofNat i))]) (st' := [(.ref a)]) [oAloadN w145.ok (dc.g 3 rfl)] rfl ?_
    refine w145.get (wd hw 17 rfl) FV (dc.g 4 rfl) ?_
    intro T149 w150
    show Go κ _ T149 11 #[.val (.ref a), .val (.int (Int32.ofNat i))] [(.ref y)]
    refine blk (pc' := 12) (Ls' := #[.val (.ref a), .val (.int (Int32.ofNat i))]) (st' := [(.int (Int32.ofNat i)), (.ref y)]) [oIloadN w150.ok (dc.g 5 rfl)] rfl ?_
    refine w150.callS (wd hw 35 rfl) (wd hw 36 rfl) (wd hw 37 rfl) (wd hw 38 rfl) (by decide) (argsL := [(.ref y), (.int (Int32.ofNat i))]) (Wd := 0) (Ctr.pays (len := 3) (Wd := 0) (c_lca l Z a0 hw hEL hJS (w150.old ozs) q3 q1 hi) w150 (wd hw 38 rfl) (wd hw 37 rfl) hEL (by decide) (by decide) sfNil) pd8 rfl (st := []) rfl rfl (Nat.le_of_eq rfl) (dc.g 6 rfl) (by decide) (by decide) ?_
    intro vm151 T152 h153 v154 w155 C156 Q157
    obtain ⟨e2, rfl⟩ := Q157
    subst e2
    show Go κ _ T152 15 #[.val (.ref a), .val (.int (Int32.ofNat i))] [(.int c)]
    exact w155.retI (t := .char) rfl (Or.inr (Or.inr (Or.inr (Or.inl rfl)))) (narrow_char hcd.1 hcd.2) (dc.g 7 rfl) (by decide) (by decide) (fun S hS => ⟨rfl, rfl⟩)
  · exact absurd hL q1
def D_leq : List (Nat × Instr × Nat) := [(0, .aload_n 0, 1), (1, .arraylength, 1), (2, .aload_n 1, 1), (3, .arraylength, 1), (4, .if_icmp .ne 30, 3), (7, .iconst 0, 1), (8, .istore_n 2, 1), (9, .iload_n 2, 1), (10, .aload_n 0, 1), (11, .arraylength, 1), (12, .if_icmp .ge 20, 3), (15, .aload_n 0, 1), (16, .iload_n 2, 1), (17, .baload, 1), (18, .aload_n 1, 1), (19, .iload_n 2, 1), (20, .baload, 1), (21, .if_icmp .eq 5, 3), (24, .iconst 0, 1), (25, .ireturn, 1), (26, .iinc 2 1, 3), (29, .goto (-20), 3), (32, .iconst 1, 1), (33, .ireturn, 1), (34, .iconst 0, 1), (35, .ireturn, 1)]
theorem hD_leq : ∀ q ∈ D_leq, decode jdk_43_method_13_code q.1 = .ok q.2 := by decide +kernel
set_option maxRecDepth 65536 in
set_option maxHeartbeats 4000000 in
theorem c_leq (l : Launch) (Z : State) (a0 : Array Value) (hw : ∀ d ∈ tables_1, d.before a0 Z = true) (hEL : EW Z a0 consts_1) (hJS : JS Z) {x y : Addr} {us vs : List Int32} {h : Heap} (F : Ary Z h x .byte us) (G : Ary Z h y .byte vs) : Ctr l Z consts_1 (⟨"java/lang/StringLatin1", "equals", "([B[B)Z"⟩ : MethodName) jdk_43_method_13_code 3 (some .boolean) [] ({ frames := 0, cells := 0, slots := 0, locals := 0 } : Room) [] #[(.ref x), (.ref y)] h (fun v h' S => h = h' ∧ v = some (.int (if us = vs then 1 else 0))) := by
  refine enter (a0 := a0) (by first | (simp [plainName, overriddenIn]; done) | decide +kernel) hEL (Ls := #[.val (.ref x), .val (.ref y), .unset]) (fun m => by first | (simp [entryFrame, mkF, argsToLocals, Value.category]; done) | rfl) ?_
  intro κ vm T hby hs w Sf
  have dc := Dec.of hby hD_leq
  show Go κ (GQ κ Z consts_1 ({ frames := 0, cells := 0, slots := 0, locals := 0 } : Room) (fun v h' S => h = h' ∧ v = some (.int (if us = vs then 1 else 0)))) T 0 #[.val (.ref x), .val (.ref y), .unset] []
  have hN := F.small
  have hM := G.small
  refine blk (pc' := 1) (Ls' := #[.val (.ref x), .val (.ref y), .unset]) (st' := [(.ref x)]) [oAloadN w.ok (dc.g 0 rfl)] rfl ?_
  refine w.len F (dc.g 1 rfl) ?_
  show Go κ _ T 2 #[.val (.ref x), .val (.ref y), .unset] [(.int (Int32.ofNat us.length))]
  refine blk (pc' := 3) (Ls' := #[.val (.ref x), .val (.ref y), .unset]) (st' := [(.ref y), (.int (Int32.ofNat us.length))]) [oAloadN w.ok (dc.g 2 rfl)] rfl ?_
  refine w.len G (dc.g 3 rfl) ?_
  show Go κ _ T 4 #[.val (.ref x), .val (.ref y), .unset] [(.int (Int32.ofNat vs.length)), (.int (Int32.ofNat us.length))]
  refine cNe (pc' := 34) w.ok (dc.g 4 rfl) (by decide) (by decide) (fun hc158 => ?_) (fun hc158 => ?_)
  · show Go κ _ T 34 #[.val (.ref x), .val (.ref y), .unset] []
    refine blk (pc' := 35) (Ls' := #[.val (.ref x), .val (.ref y), .unset]) (st' := [(.int (0 : Int32))]) [oIconst w.ok (dc.g 24 rfl)] rfl ?_
    exact w.retI (t := .boolean) rfl (Or.inr (Or.inl rfl)) rfl (dc.g 25 rfl) (by decide) (by decide) (fun S hS => ⟨rfl, by rw [if_neg (fun q => hc158 (by rw [q]))]⟩)
  · show Go κ _ T 7 #[.val (.ref x), .val (.ref y), .unset] []
    have el : us.length = vs.length := (ofNat_inj hN hM).mp hc158
    have key : ∀ (f i : Nat), i + f = us.length → us.take i = vs.take i → Go κ (GQ κ Z consts_1 ({ frames := 0, cells := 0, slots := 0, locals := 0 } : Room) (fun v h' S => h = h' ∧ v = some (.int (if us = vs then 1 else 0)))) T 9 #[.val (.ref x), .val (.ref y), .val (.int (Int32.ofNat i))] [] := by
      intro f
      induction f with
      | zero =>
        intro i hi ht
        refine blk (pc' := 11) (Ls' := #[.val (.ref x), .val (.ref y), .val (.int (Int32.ofNat i))]) (st' := [(.ref x), (.int (Int32.ofNat i))]) [oIloadN w.ok (dc.g 7 rfl), oAloadN w.ok (dc.g 8 rfl)] rfl ?_
        refine w.len F (dc.g 9 rfl) ?_
        show Go κ _ T 12 #[.val (.ref x), .val (.ref y), .val (.int (Int32.ofNat i))] [(.int (Int32.ofNat us.length)), (.int (Int32.ofNat i))]
        refine cGe (pc' := 32) w.ok (dc.g 10 rfl) (by decide) (by decide) (fun hc159 => ?_) (fun hc159 => absurd hc159 (fun q => absurd q (by rw [ofNat_lt (by omega) hN]; omega)))
        show Go κ _ T 32 #[.val (.ref x), .val (.ref y), .val (.int (Int32.ofNat i))] []
        refine blk (pc' := 33) (Ls' := #[.val (.ref x), .val (.ref y), .val (.int (Int32.ofNat i))]) (st' := [(.int (1 : Int32))]) [oIconst w.ok (dc.g 22 rfl)] rfl ?_
        exact w.retI (t := .boolean) rfl (Or.inr (Or.inl rfl)) rfl (dc.g 23 rfl) (by decide) (by decide) (fun S hS => ⟨rfl, by rw [if_pos (by rw [List.take_of_length_le (by omega), List.take_of_length_le (by omega)] at ht; exact ht)]⟩)
      | succ f ih =>
        intro i hi ht
        obtain ⟨c, hc⟩ : ∃ c, us[i]? = some c := ⟨_, List.getElem?_eq_getElem (by omega)⟩
        obtain ⟨e, he⟩ : ∃ e, vs[i]? = some e := ⟨_, List.getElem?_eq_getElem (by omega)⟩
        refine blk (pc' := 11) (Ls' := #[.val (.ref x), .val (.ref y), .val (.int (Int32.ofNat i))]) (st' := [(.ref x), (.int (Int32.ofNat i))]) [oIloadN w.ok (dc.g 7 rfl), oAloadN w.ok (dc.g 8 rfl)] rfl ?_
        refine w.len F (dc.g 9 rfl) ?_
        show Go κ _ T 12 #[.val (.ref x), .val (.ref y), .val (.int (Int32.ofNat i))] [(.int (Int32.ofNat us.length)), (.int (Int32.ofNat i))]
        refine cGe (pc' := 32) w.ok (dc.g 10 rfl) (by decide) (by decide) (fun hc160 => absurd ((ofNat_lt (by omega) hN).mpr (by omega)) hc160) (fun hc160 => ?_)
        show Go κ _ T 15 #[.val (.ref x), .val (.ref y), .val (.int (Int32.ofNat i))] []
        refine blk (pc' := 17) (Ls' := #[.val (.ref x), .val (.ref y), .val (.int (Int32.ofNat i))]) (st' := [(.int (Int32.ofNat i)), (.ref x)]) [oAloadN w.ok (dc.g 11 rfl), oIloadN w.ok (dc.g 12 rfl)] rfl ?_
        refine w.bld F (i := i) rfl hc (dc.g 13 rfl) ?_
        show Go κ _ T 18 #[.val (.ref x), .val (.ref y), .val (.int (Int32.ofNat i))] [(.int c)]
        refine blk (pc' := 20) (Ls' := #[.val (.ref x), .val (.ref y), .val (.int (Int32.ofNat i))]) (st' := [(.int (Int32.ofNat i)), (.ref y), (.int c)]) [oAloadN w.ok (dc.g 14 rfl), oIloadN w.ok (dc.g 15 rfl)] rfl ?_
        refine w.bld G (i := i) rfl he (dc.g 16 rfl) ?_
        show Go κ _ T 21 #[.val (.ref x), .val (.ref y), .val (.int (Int32.ofNat i))] [(.int e), (.int c)]
        refine cEq (pc' := 26) w.ok (dc.g 17 rfl) (by decide) (by decide) (fun hc161 => ?_) (fun hc161 => ?_)
        · show Go κ _ T 26 #[.val (.ref x), .val (.ref y), .val (.int (Int32.ofNat i))] []
          refine blk (pc' := 9) (Ls' := #[.val (.ref x), .val (.ref y), .val (.int ((Int32.ofNat i) + (1 : Int32)))]) (st' := []) [oIinc w.ok (dc.g 20 rfl), oGoto w.ok 9 (dc.g 21 rfl)] rfl ?_
          rw [ofNat_succ]
          exact ih (i + 1) (by omega) (by rw [take_succ hc, take_succ he, ht, hc161])
        · show Go κ _ T 24 #[.val (.ref x), .val (.ref y), .val (.int (Int32.ofNat i))] []
          refine blk (pc' := 25) (Ls' := #[.val (.ref x), .val (.ref y), .val (.int (Int32.ofNat i))]) (st' := [(.int (0 : Int32))]) [oIconst w.ok (dc.g 18 rfl)] rfl ?_
          exact w.retI (t := .boolean) rfl (Or.inr (Or.inl rfl)) rfl (dc.g 19 rfl) (by decide) (by decide) (fun S hS => ⟨rfl, by rw [if_neg (fun q => hc161 (by rw [q, he] at hc; exact (Option.some.inj hc).symm))]⟩)
    refine blk (pc' := 9) (Ls' := #[.val (.ref x), .val (.ref y), .val (.int (0 : Int32))]) (st' := []) [oIconst w.ok (dc.g 5 rfl), oIstoreN w.ok (dc.g 6 rfl)] rfl ?_
    exact key us.length 0 (by omega) rfl
def D_eqs : List (Nat × Instr × Nat) := [(0, .aload_n 0, 1), (1, .aload_n 1, 1), (2, .if_acmp .ne 5, 3), (5, .iconst 1, 1), (6, .ireturn, 1), (7, .aload_n 1, 1), (8, .instanceof 10, 3), (11, .ifCond .eq 43, 3), (14, .aload_n 1, 1), (15, .checkcast 10, 3), (18, .astore_n 2, 1), (19, .getstatic 38, 3), (22, .ifCond .eq 14, 3), (25, .aload_n 0, 1), (26, .getfield 15, 3), (29, .aload_n 2, 1), (30, .getfield 15, 3), (33, .if_icmp .ne 21, 3), (36, .aload_n 0, 1), (37, .getfield 9, 3), (40, .aload_n 2, 1), (41, .getfield 9, 3), (44, .invokestatic 541, 3), (47, .ifCond .eq 7, 3), (50, .iconst 1, 1), (51, .goto 4, 3), (54, .iconst 0, 1), (55, .ireturn, 1)]
theorem hD_eqs : ∀ q ∈ D_eqs, decode jdk_42_method_66_code q.1 = .ok q.2 := by decide +kernel
set_option maxRecDepth 65536 in
set_option maxHeartbeats 4000000 in
theorem c_eqs (l : Launch) (Z : State) (a0 : Array Value) (hw : ∀ d ∈ tables_1, d.before a0 Z = true) (hEL : EW Z a0 consts_1) (hJS : JS Z) {x y : Addr} {cs ds : List Int32} {h : Heap} (oz : Ext Z.heap h) (F : Str Z h x cs) (G : Str Z h y ds) (hL : IsL cs) (hM : IsL ds) : Ctr l Z consts_1 (⟨"java/lang/String", "equals", "(Ljava/lang/Object;)Z"⟩ : MethodName) jdk_42_method_66_code 3 (some .boolean) [] ({ frames := 1, cells := 0, slots := 0, locals := 14 } : Room) [] #[(.ref x), (.ref y)] h (fun v h' S => h = h' ∧ v = some (.int (if cs = ds then 1 else 0))) := by
  refine enter (a0 := a0) (by first | (simp [plainName, overriddenIn]; done) | decide +kernel) hEL (Ls := #[.val (.ref x), .val (.ref y), .unset]) (fun m => by first | (simp [entryFrame, mkF, argsToLocals, Value.category]; done) | rfl) ?_
  intro κ vm T hby hs w Sf
  have dc := Dec.of hby hD_eqs
  show Go κ (GQ κ Z consts_1 ({ frames := 1, cells := 0, slots := 0, locals := 14 } : Room) (fun v h' S => h = h' ∧ v = some (.int (if cs = ds then 1 else 0)))) T 0 #[.val (.ref x), .val (.ref y), .unset] []
  have ozs : Ext Z.heap κ.s.heap := by rw [hs]; exact oz
  obtain ⟨⟨zc, hcs, hcz⟩, -⟩ := id hJS
  obtain ⟨u, f1, f2, f3⟩ := F.lat hL
  obtain ⟨t, g1, g2, g3⟩ := G.lat hM
  refine blk (pc' := 2) (Ls' := #[.val (.ref x), .val (.ref y), .unset]) (st' := [(.ref y), (.ref x)]) [oAloadN w.ok (dc.g 0 rfl), oAloadN w.ok (dc.g 1 rfl)] rfl ?_
  refine w.acmp (pc' := 7) (dc.g 2 rfl) (by decide) (by decide) (fun hc162 => ?_) (fun hc162 => ?_)
  · show Go κ _ T 7 #[.val (.ref x), .val (.ref y), .unset] []
    refine blk (pc' := 8) (Ls' := #[.val (.ref x), .val (.ref y), .unset]) (st' := [(.ref y)]) [oAloadN w.ok (dc.g 5 rfl)] rfl ?_
    refine w.instY (wd hw 82 rfl) (Ins.self G.exa) (dc.g 6 rfl) ?_
    intro T163 w164
    show Go κ _ T163 11 #[.val (.ref x), .val (.ref y), .unset] [(.int (1 : Int32))]
    refine zEq (pc' := 54) w164.ok (dc.g 7 rfl) (by decide) (by decide) (fun hc165 => absurd hc165 (by decide)) (fun hc165 => ?_)
    show Go κ _ T163 14 #[.val (.ref x), .val (.ref y), .unset] []
    refine blk (pc' := 15) (Ls' := #[.val (.ref x), .val (.ref y), .unset]) (st' := [(.ref y)]) [oAloadN w164.ok (dc.g 8 rfl)] rfl ?_
    refine w164.castY (wd hw 82 rfl) (Ins.self G.exa) (dc.g 9 rfl) ?_
    intro T166 w167
    show Go κ _ T166 18 #[.val (.ref x), .val (.ref y), .unset] [(.ref y)]
    refine blk (pc' := 19) (Ls' := #[.val (.ref x), .val (.ref y), .val (.ref y)]) (st' := []) [oAstoreN w167.ok (dc.g 10 rfl)] rfl ?_
    refine w167.gets (wd hw 23 rfl) (hcs.ext (w167.old ozs)) (dc.g 11 rfl) ?_
    intro T168 w169
    show Go κ _ T168 22 #[.val (.ref x), .val (.ref y), .val (.ref y)] [(.int zc)]
    refine zEq (pc' := 36) w169.ok (dc.g 12 rfl) (by decide) (by decide) (fun hc170 => absurd hc170 hcz) (fun hc170 => ?_)
    show Go κ _ T168 25 #[.val (.ref x), .val (.ref y), .val (.ref y)] []
    refine blk (pc' := 26) (Ls' := #[.val (.ref x), .val (.ref y), .val (.ref y)]) (st' := [(.ref x)]) [oAloadN w169.ok (dc.g 13 rfl)] rfl ?_
    refine w169.get (wd hw 24 rfl) f2 (dc.g 14 rfl) ?_
    intro T171 w172
    show Go κ _ T171 29 #[.val (.ref x), .val (.ref y), .val (.ref y)] [(.int (0 : Int32))]
    refine blk (pc' := 30) (Ls' := #[.val (.ref x), .val (.ref y), .val (.ref y)]) (st' := [(.ref y), (.int (0 : Int32))]) [oAloadN w172.ok (dc.g 15 rfl)] rfl ?_
    refine w172.get (wd hw 24 rfl) g2 (dc.g 16 rfl) ?_
    intro T173 w174
    show Go κ _ T173 33 #[.val (.ref x), .val (.ref y), .val (.ref y)] [(.int (0 : Int32)), (.int (0 : Int32))]
    refine cNe (pc' := 54) w174.ok (dc.g 17 rfl) (by decide) (by decide) (fun hc175 => absurd rfl hc175) (fun hc175 => ?_)
    show Go κ _ T173 36 #[.val (.ref x), .val (.ref y), .val (.ref y)] []
    refine blk (pc' := 37) (Ls' := #[.val (.ref x), .val (.ref y), .val (.ref y)]) (st' := [(.ref x)]) [oAloadN w174.ok (dc.g 18 rfl)] rfl ?_
    refine w174.get (wd hw 17 rfl) f1 (dc.g 19 rfl) ?_
    intro T176 w177
    show Go κ _ T176 40 #[.val (.ref x), .val (.ref y), .val (.ref y)] [(.ref u)]
    refine blk (pc' := 41) (Ls' := #[.val (.ref x), .val (.ref y), .val (.ref y)]) (st' := [(.ref y), (.ref u)]) [oAloadN w177.ok (dc.g 20 rfl)] rfl ?_
    refine w177.get (wd hw 17 rfl) g1 (dc.g 21 rfl) ?_
    intro T178 w179
    show Go κ _ T178 44 #[.val (.ref x), .val (.ref y), .val (.ref y)] [(.ref t), (.ref u)]
    refine w179.callS (wd hw 83 rfl) (wd hw 84 rfl) (wd hw 37 rfl) (wd hw 85 rfl) (by decide) (argsL := [(.ref u), (.ref t)]) (Wd := 0) (Ctr.pays (len := 3) (Wd := 0) (c_leq l Z a0 hw hEL hJS f3 g3) w179 (wd hw 85 rfl) (wd hw 37 rfl) hEL (by decide) (by decide) sfNil) pd9 rfl (st := []) rfl rfl (Nat.le_of_eq rfl) (dc.g 22 rfl) (by decide) (by decide) ?_
    intro vm180 T181 h182 v183 w184 C185 Q186
    obtain ⟨e2, rfl⟩ := Q186
    subst e2
    show Go κ _ T181 47 #[.val (.ref x), .val (.ref y), .val (.ref y)] [(.int (if cs.map lo8 = ds.map lo8 then (1 : Int32) else 0))]
    by_cases hq : cs = ds
    · subst hq
      refine Go.top (y := (1 : Int32)) (if_pos rfl) ?_
      show Go κ _ T181 47 #[.val (.ref x), .val (.ref y), .val (.ref y)] [(.int (1 : Int32))]
      refine zEq (pc' := 54) w184.ok (dc.g 23 rfl) (by decide) (by decide) (fun hc187 => absurd hc187 (by decide)) (fun hc187 => ?_)
      show Go κ _ T181 50 #[.val (.ref x), .val (.ref y), .val (.ref y)] []
      refine blk (pc' := 55) (Ls' := #[.val (.ref x), .val (.ref y), .val (.ref y)]) (st' := [(.int (1 : Int32))]) [oIconst w184.ok (dc.g 24 rfl), oGoto w184.ok 55 (dc.g 25 rfl)] rfl ?_
      exact w184.retI (t := .boolean) rfl (Or.inr (Or.inl rfl)) rfl (dc.g 27 rfl) (by decide) (by decide) (fun S hS => ⟨rfl, by rw [if_pos rfl]⟩)
    · refine Go.top (y := (0 : Int32)) (if_neg (fun q => hq (lo8_list hL hM q))) ?_
      show Go κ _ T181 47 #[.val (.ref x), .val (.ref y), .val (.ref y)] [(.int (0 : Int32))]
      refine zEq (pc' := 54) w184.ok (dc.g 23 rfl) (by decide) (by decide) (fun hc188 => ?_) (fun hc188 => absurd rfl hc188)
      show Go κ _ T181 54 #[.val (.ref x), .val (.ref y), .val (.ref y)] []
      refine blk (pc' := 55) (Ls' := #[.val (.ref x), .val (.ref y), .val (.ref y)]) (st' := [(.int (0 : Int32))]) [oIconst w184.ok (dc.g 26 rfl)] rfl ?_
      exact w184.retI (t := .boolean) rfl (Or.inr (Or.inl rfl)) rfl (dc.g 27 rfl) (by decide) (by decide) (fun S hS => ⟨rfl, by rw [if_neg hq]⟩)
  · show Go κ _ T 5 #[.val (.ref x), .val (.ref y), .unset] []
    subst hc162
    show Go κ _ T 5 #[.val (.ref x), .val (.ref x), .unset] []
    refine blk (pc' := 6) (Ls' := #[.val (.ref x), .val (.ref x), .unset]) (st' := [(.int (1 : Int32))]) [oIconst w.ok (dc.g 3 rfl)] rfl ?_
    exact w.retI (t := .boolean) rfl (Or.inr (Or.inl rfl)) rfl (dc.g 4 rfl) (by decide) (by decide) (fun S hS => ⟨rfl, by rw [if_pos (F.inj G hL hM)]⟩)
def D_pick : List (Nat × Instr × Nat) := [(0, .iload_n 3, 1), (1, .ifCond .eq 11, 3), (4, .iload_n 1, 1), (5, .iload_n 2, 1), (6, .if_icmp .ne 6, 3), (9, .iload 4, 2), (11, .ireturn, 1), (12, .iload_n 1, 1), (13, .aload_n 0, 1), (14, .invokevirtual 27, 3), (17, .if_icmp .ge 9, 3), (20, .aload_n 0, 1), (21, .iload_n 1, 1), (22, .invokevirtual 33, 3), (25, .ireturn, 1), (26, .iload 5, 2), (28, .ireturn, 1)]
theorem hD_pick : ∀ q ∈ D_pick, decode method_3_code q.1 = .ok q.2 := by decide +kernel
set_option maxRecDepth 65536 in
set_option maxHeartbeats 4000000 in
theorem c_pick (l : Launch) (Z : State) (a0 : Array Value) (hw : ∀ d ∈ tables_1, d.before a0 Z = true) (hEL : EW Z a0 consts_1) (hJS : JS Z) {a : Addr} {i p : Nat} {mu m f : Int32} {cs : List Int32} {h : Heap} (oz : Ext Z.heap h) (F : Str Z h a cs) (hL : IsL cs) (hi : i < 16) (hm : ¬ m < 0 ∧ ¬ 255 < m) (hf : ¬ f < 0 ∧ ¬ 255 < f) : Ctr l Z consts_1 (⟨"com/example/heronbus/heronbus/stomp/FrameIsConnectPinLaw", "pick", "(Ljava/lang/String;IIZCC)C"⟩ : MethodName) method_3_code 6 (some .char) [] ({ frames := 4, cells := 0, slots := 0, locals := 55 } : Room) [] #[(.ref a), (.int (Int32.ofNat i)), (.int (Int32.ofNat p)), (.int mu), (.int m), (.int f)] h (fun v h' S => h = h' ∧ ∃ r, v = some (.int r) ∧ (¬ r < 0 ∧ ¬ 255 < r)) := by
  refine enter (a0 := a0) (by first | (simp [plainName, overriddenIn]; done) | decide +kernel) hEL (Ls := #[.val (.ref a), .val (.int (Int32.ofNat i)), .val (.int (Int32.ofNat p)), .val (.int mu), .val (.int m), .val (.int f)]) (fun m => by first | (simp [entryFrame, mkF, argsToLocals, Value.category]; done) | rfl) ?_
  intro κ vm T hby hs w Sf
  have dc := Dec.of hby hD_pick
  show Go κ (GQ κ Z consts_1 ({ frames := 4, cells := 0, slots := 0, locals := 55 } : Room) (fun v h' S => h = h' ∧ ∃ r, v = some (.int r) ∧ (¬ r < 0 ∧ ¬ 255 < r))) T 0 #[.val (.ref a), .val (.int (Int32.ofNat i)), .val (.int (Int32.ofNat p)), .val (.int mu), .val (.int m), .val (.int f)] []
  have ozs : Ext Z.heap κ.s.heap := by rw [hs]; exact oz
  have hlen := F.len_lt
  suffices k12 : Go κ (GQ κ Z consts_1 ({ frames := 4, cells := 0, slots := 0, locals := 55 } : Room) (fun v h' S => h = h' ∧ ∃ r, v = some (.int r) ∧ (¬ r < 0 ∧ ¬ 255 < r))) T 12 #[.val (.ref a), .val (.int (Int32.ofNat i)), .val (.int (Int32.ofNat p)), .val (.int mu), .val (.int m), .val (.int f)] [] by
    refine blk (pc' := 1) (Ls' := #[.val (.ref a), .val (.int (Int32.ofNat i)), .val (.int (Int32.ofNat p)), .val (.int mu), .val (.int m), .val (.int f)]) (st' := [(.int mu)]) [oIloadN w.ok (dc.g 0 rfl)] rfl ?_
    refine zEq (pc' := 12) w.ok (dc.g 1 rfl) (by decide) (by decide) (fun hc189 => ?_) (fun hc189 => ?_)
    · show Go κ _ T 12 #[.val (.ref a), .val (.int (Int32.ofNat i)), .val (.int (Int32.ofNat p)), .val (.int mu), .val (.int m), .val (.int f)] []
      exact k12
    · show Go κ _ T 4 #[.val (.ref a), .val (.int (Int32.ofNat i)), .val (.int (Int32.ofNat p)), .val (.int mu), .val (.int m), .val (.int f)] []
      refine blk (pc' := 6) (Ls' := #[.val (.ref a), .val (.int (Int32.ofNat i)), .val (.int (Int32.ofNat p)), .val (.int mu), .val (.int m), .val (.int f)]) (st' := [(.int (Int32.ofNat p)), (.int (Int32.ofNat i))]) [oIloadN w.ok (dc.g 2 rfl), oIloadN w.ok (dc.g 3 rfl)] rfl ?_
      refine cNe (pc' := 12) w.ok (dc.g 4 rfl) (by decide) (by decide) (fun hc190 => ?_) (fun hc190 => ?_)
      · show Go κ _ T 12 #[.val (.ref a), .val (.int (Int32.ofNat i)), .val (.int (Int32.ofNat p)), .val (.int mu), .val (.int m), .val (.int f)] []
        exact k12
      · show Go κ _ T 9 #[.val (.ref a), .val (.int (Int32.ofNat i)), .val (.int (Int32.ofNat p)), .val (.int mu), .val (.int m), .val (.int f)] []
        refine blk (pc' := 11) (Ls' := #[.val (.ref a), .val (.int (Int32.ofNat i)), .val (.int (Int32.ofNat p)), .val (.int mu), .val (.int m), .val (.int f)]) (st' := [(.int m)]) [oIload w.ok (dc.g 5 rfl)] rfl ?_
        exact w.retI (t := .char) rfl (Or.inr (Or.inr (Or.inr (Or.inl rfl)))) (narrow_char hm.1 (le255 hm.2)) (dc.g 6 rfl) (by decide) (by decide) (fun S hS => ⟨rfl, _, rfl, hm⟩)
  show Go κ _ T 12 #[.val (.ref a), .val (.int (Int32.ofNat i)), .val (.int (Int32.ofNat p)), .val (.int mu), .val (.int m), .val (.int f)] []
  refine blk (pc' := 14) (Ls' := #[.val (.ref a), .val (.int (Int32.ofNat i)), .val (.int (Int32.ofNat p)), .val (.int mu), .val (.int m), .val (.int f)]) (st' := [(.ref a), (.int (Int32.ofNat i))]) [oIloadN w.ok (dc.g 7 rfl), oAloadN w.ok (dc.g 8 rfl)] rfl ?_
  refine w.callV (wd hw 12 rfl) (wd hw 13 rfl) (notFace (wd hw 15 rfl)) (wd hw 15 rfl) (wd hw 14 rfl) (by decide) (a := a) F.exa (argsL := []) (Wd := 1) (Ctr.pays (len := 3) (Wd := 1) (c_len l Z a0 hw hEL hJS oz F) w (wd hw 16 rfl) (wd hw 1 rfl) hEL (by decide) (by decide) sfNil) pd10 rfl (st := [(.int (Int32.ofNat i))]) rfl rfl (Nat.le_of_eq rfl) (dc.g 9 rfl) (by decide) (by decide) ?_
  intro vm191 T192 h193 v194 w195 C196 Q197
  obtain ⟨e2, rfl⟩ := Q197
  subst e2
  show Go κ _ T192 17 #[.val (.ref a), .val (.int (Int32.ofNat i)), .val (.int (Int32.ofNat p)), .val (.int mu), .val (.int m), .val (.int f)] [(.int (Int32.ofNat cs.length)), (.int (Int32.ofNat i))]
  refine cGe (pc' := 26) w195.ok (dc.g 10 rfl) (by decide) (by decide) (fun hc198 => ?_) (fun hc198 => ?_)
  · show Go κ _ T192 26 #[.val (.ref a), .val (.int (Int32.ofNat i)), .val (.int (Int32.ofNat p)), .val (.int mu), .val (.int m), .val (.int f)] []
    refine blk (pc' := 28) (Ls' := #[.val (.ref a), .val (.int (Int32.ofNat i)), .val (.int (Int32.ofNat p)), .val (.int mu), .val (.int m), .val (.int f)]) (st' := [(.int f)]) [oIload w195.ok (dc.g 15 rfl)] rfl ?_
    exact w195.retI (t := .char) rfl (Or.inr (Or.inr (Or.inr (Or.inl rfl)))) (narrow_char hf.1 (le255 hf.2)) (dc.g 16 rfl) (by decide) (by decide) (fun S hS => ⟨rfl, _, rfl, hf⟩)
  · show Go κ _ T192 20 #[.val (.ref a), .val (.int (Int32.ofNat i)), .val (.int (Int32.ofNat p)), .val (.int mu), .val (.int m), .val (.int f)] []
    have hlt : i < cs.length := (ofNat_lt (by omega) (by omega)).mp hc198
    obtain ⟨c, hc0⟩ : ∃ c, cs[i]? = some c := ⟨_, List.getElem?_eq_getElem hlt⟩
    have hcb := hL c (List.mem_of_getElem? hc0)
    refine blk (pc' := 22) (Ls' := #[.val (.ref a), .val (.int (Int32.ofNat i)), .val (.int (Int32.ofNat p)), .val (.int mu), .val (.int m), .val (.int f)]) (st' := [(.int (Int32.ofNat i)), (.ref a)]) [oAloadN w195.ok (dc.g 11 rfl), oIloadN w195.ok (dc.g 12 rfl)] rfl ?_
    refine w195.callV (wd hw 25 rfl) (wd hw 26 rfl) (notFace (wd hw 28 rfl)) (wd hw 28 rfl) (wd hw 27 rfl) (by decide) (a := a) F.exa (argsL := [(.int (Int32.ofNat i))]) (Wd := 0) (Ctr.pays (len := 3) (Wd := 0) (c_cha l Z a0 hw hEL hJS (w195.old ozs) F hc0 hL) w195 (wd hw 29 rfl) (wd hw 1 rfl) hEL (by decide) (by decide) sfNil) pd11 rfl (st := []) rfl rfl (Nat.le_of_eq rfl) (dc.g 13 rfl) (by decide) (by decide) ?_
    intro vm199 T200 h201 v202 w203 C204 Q205
    obtain ⟨e3, rfl⟩ := Q205
    subst e3
    show Go κ _ T200 25 #[.val (.ref a), .val (.int (Int32.ofNat i)), .val (.int (Int32.ofNat p)), .val (.int mu), .val (.int m), .val (.int f)] [(.int c)]
    exact w203.retI (t := .char) rfl (Or.inr (Or.inr (Or.inr (Or.inl rfl)))) (narrow_char hcb.1 (le255 hcb.2)) (dc.g 14 rfl) (by decide) (by decide) (fun S hS => ⟨rfl, _, rfl, hcb⟩)
def D_make : List (Nat × Instr × Nat) := [(0, .iload_n 0, 1), (1, .ifCond .ne 14, 3), (4, .new 28, 3), (7, .dup, 1), (8, .iconst 0, 1), (9, .newarray .char, 2), (11, .invokespecial 37, 3), (14, .areturn, 1), (15, .iload_n 0, 1), (16, .iconst 1, 1), (17, .if_icmp .ne 18, 3), (20, .new 28, 3), (23, .dup, 1), (24, .iconst 1, 1), (25, .newarray .char, 2), (27, .dup, 1), (28, .iconst 0, 1), (29, .iload_n 1, 1), (30, .castore, 1), (31, .invokespecial 37, 3), (34, .areturn, 1), (35, .iload_n 0, 1), (36, .iconst 2, 1), (37, .if_icmp .ne 22, 3), (40, .new 28, 3), (43, .dup, 1), (44, .iconst 2, 1), (45, .newarray .char, 2), (47, .dup, 1), (48, .iconst 0, 1), (49, .iload_n 1, 1), (50, .castore, 1), (51, .dup, 1), (52, .iconst 1, 1), (53, .iload_n 2, 1), (54, .castore, 1), (55, .invokespecial 37, 3), (58, .areturn, 1), (59, .iload_n 0, 1), (60, .iconst 3, 1), (61, .if_icmp .ne 26, 3), (64, .new 28, 3), (67, .dup, 1), (68, .iconst 3, 1), (69, .newarray .char, 2), (71, .dup, 1), (72, .iconst 0, 1), (73, .iload_n 1, 1), (74, .castore, 1), (75, .dup, 1), (76, .iconst 1, 1), (77, .iload_n 2, 1), (78, .castore, 1), (79, .dup, 1), (80, .iconst 2, 1), (81, .iload_n 3, 1), (82, .castore, 1), (83, .invokespecial 37, 3), (86, .areturn, 1), (87, .iload_n 0, 1), (88, .iconst 4, 1), (89, .if_icmp .ne 31, 3), (92, .new 28, 3), (95, .dup, 1), (96, .iconst 4, 1), (97, .newarray .char, 2), (99, .dup, 1), (100, .iconst 0, 1), (101, .iload_n 1, 1), (102, .castore, 1), (103, .dup, 1), (104, .iconst 1, 1), (105, .iload_n 2, 1), (106, .castore, 1), (107, .dup, 1), (108, .iconst 2, 1), (109, .iload_n 3, 1), (110, .castore, 1), (111, .dup, 1), (112, .iconst 3, 1), (113, .iload 4, 2), (115, .castore, 1), (116, .invokespecial 37, 3), (119, .areturn, 1), (120, .iload_n 0, 1), (121, .iconst 5, 1), (122, .if_icmp .ne 36, 3), (125, .new 28, 3), (128, .dup, 1), (129, .iconst 5, 1), (130, .newarray .char, 2), (132, .dup, 1), (133, .iconst 0, 1), (134, .iload_n 1, 1), (135, .castore, 1), (136, .dup, 1), (137, .iconst 1, 1), (138, .iload_n 2, 1), (139, .castore, 1), (140, .dup, 1), (141, .iconst 2, 1), (142, .iload_n 3, 1), (143, .castore, 1), (144, .dup, 1), (145, .iconst 3, 1), (146, .iload 4, 2), (148, .castore, 1), (149, .dup, 1), (150, .iconst 4, 1), (151, .iload 5, 2), (153, .castore, 1), (154, .invokespecial 37, 3), (157, .areturn, 1), (158, .iload_n 0, 1), (159, .bipush 6, 2), (161, .if_icmp .ne 42, 3), (164, .new 28, 3), (167, .dup, 1), (168, .bipush 6, 2), (170, .newarray .char, 2), (172, .dup, 1), (173, .iconst 0, 1), (174, .iload_n 1, 1), (175, .castore, 1), (176, .dup, 1), (177, .iconst 1, 1), (178, .iload_n 2, 1), (179, .castore, 1), (180, .dup, 1), (181, .iconst 2, 1), (182, .iload_n 3, 1), (183, .castore, 1), (184, .dup, 1), (185, .iconst 3, 1), (186, .iload 4, 2), (188, .castore, 1), (189, .dup, 1), (190, .iconst 4, 1), (191, .iload 5, 2), (193, .castore, 1), (194, .dup, 1), (195, .iconst 5, 1), (196, .iload 6, 2), (198, .castore, 1), (199, .invokespecial 37, 3), (202, .areturn, 1), (203, .iload_n 0, 1), (204, .bipush 7, 2), (206, .if_icmp .ne 48, 3), (209, .new 28, 3), (212, .dup, 1), (213, .bipush 7, 2), (215, .newarray .char, 2), (217, .dup, 1), (218, .iconst 0, 1), (219, .iload_n 1, 1), (220, .castore, 1), (221, .dup, 1), (222, .iconst 1, 1), (223, .iload_n 2, 1), (224, .castore, 1), (225, .dup, 1), (226, .iconst 2, 1), (227, .iload_n 3, 1), (228, .castore, 1), (229, .dup, 1), (230, .iconst 3, 1), (231, .iload 4, 2), (233, .castore, 1), (234, .dup, 1), (235, .iconst 4, 1), (236, .iload 5, 2), (238, .castore, 1), (239, .dup, 1), (240, .iconst 5, 1), (241, .iload 6, 2), (243, .castore, 1), (244, .dup, 1), (245, .bipush 6, 2), (247, .iload 7, 2), (249, .castore, 1), (250, .invokespecial 37, 3), (253, .areturn, 1), (254, .iload_n 0, 1), (255, .bipush 8, 2), (257, .if_icmp .ne 54, 3), (260, .new 28, 3), (263, .dup, 1), (264, .bipush 8, 2), (266, .newarray .char, 2), (268, .dup, 1), (269, .iconst 0, 1), (270, .iload_n 1, 1), (271, .castore, 1), (272, .dup, 1), (273, .iconst 1, 1), (274, .iload_n 2, 1), (275, .castore, 1), (276, .dup, 1), (277, .iconst 2, 1), (278, .iload_n 3, 1), (279, .castore, 1), (280, .dup, 1), (281, .iconst 3, 1), (282, .iload 4, 2), (284, .castore, 1), (285, .dup, 1), (286, .iconst 4, 1), (287, .iload 5, 2), (289, .castore, 1), (290, .dup, 1), (291, .iconst 5, 1), (292, .iload 6, 2), (294, .castore, 1), (295, .dup, 1), (296, .bipush 6, 2), (298, .iload 7, 2), (300, .castore, 1), (301, .dup, 1), (302, .bipush 7, 2), (304, .iload 8, 2), (306, .castore, 1), (307, .invokespecial 37, 3), (310, .areturn, 1), (311, .new 28, 3), (314, .dup, 1), (315, .bipush 9, 2), (317, .newarray .char, 2), (319, .dup, 1), (320, .iconst 0, 1), (321, .iload_n 1, 1), (322, .castore, 1), (323, .dup, 1), (324, .iconst 1, 1), (325, .iload_n 2, 1), (326, .castore, 1), (327, .dup, 1), (328, .iconst 2, 1), (329, .iload_n 3, 1), (330, .castore, 1), (331, .dup, 1), (332, .iconst 3, 1), (333, .iload 4, 2), (335, .castore, 1), (336, .dup, 1), (337, .iconst 4, 1), (338, .iload 5, 2), (340, .castore, 1), (341, .dup, 1), (342, .iconst 5, 1), (343, .iload 6, 2), (345, .castore, 1), (346, .dup, 1), (347, .bipush 6, 2), (349, .iload 7, 2), (351, .castore, 1), (352, .dup, 1), (353, .bipush 7, 2), (355, .iload 8, 2), (357, .castore, 1), (358, .dup, 1), (359, .bipush 8, 2), (361, .iload 9, 2), (363, .castore, 1), (364, .invokespecial 37, 3), (367, .areturn, 1)]
theorem hD_make : ∀ q ∈ D_make, decode method_4_code q.1 = .ok q.2 := by decide +kernel
set_option maxRecDepth 65536 in
set_option maxHeartbeats 4000000 in
theorem c_make (l : Launch) (Z : State) (a0 : Array Value) (hw : ∀ d ∈ tables_1, d.before a0 Z = true) (hEL : EW Z a0 consts_1) (hJS : JS Z) {n : Nat} {c0 c1 c2 c3 c4 c5 c6 c7 c8 : Int32} {h : Heap} (oz : Ext Z.heap h) (hn : n < 10) (hL : IsL ([c0, c1, c2, c3, c4, c5, c6, c7, c8] : List Int32)) : Ctr l Z consts_1 (⟨"com/example/heronbus/heronbus/stomp/FrameIsConnectPinLaw", "make", "(ICCCCCCCCC)Ljava/lang/String;"⟩ : MethodName) method_4_code 10 (some (.object "java/lang/String")) [] ({ frames := 4, cells := 6, slots := 22, locals := 70 } : Room) [] #[(.int (Int32.ofNat n)), (.int c0), (.int c1), (.int c2), (.int c3), (.int c4), (.int c5), (.int c6), (.int c7), (.int c8)] h (fun v h' S => Keep h h' [] ∧ ∃ y, v = some (.ref y) ∧ Str Z h' y (([c0, c1, c2, c3, c4, c5, c6, c7, c8] : List Int32).take n)) := by
  refine enter (a0 := a0) (by first | (simp [plainName, overriddenIn]; done) | decide +kernel) hEL (Ls := #[.val (.int (Int32.ofNat n)), .val (.int c0), .val (.int c1), .val (.int c2), .val (.int c3), .val (.int c4), .val (.int c5), .val (.int c6), .val (.int c7), .val (.int c8)]) (fun m => by first | (simp [entryFrame, mkF, argsToLocals, Value.category]; done) | rfl) ?_
  intro κ vm T hby hs w Sf
  have dc := Dec.of hby hD_make
  show Go κ (GQ κ Z consts_1 ({ frames := 4, cells := 6, slots := 22, locals := 70 } : Room) (fun v h' S => Keep h h' [] ∧ ∃ y, v = some (.ref y) ∧ Str Z h' y (([c0, c1, c2, c3, c4, c5, c6, c7, c8] : List Int32).take n))) T 0 #[.val (.int (Int32.ofNat n)), .val (.int c0), .val (.int c1), .val (.int c2), .val (.int c3), .val (.int c4), .val (.int c5), .val (.int c6), .val (.int c7), .val (.int c8)] []
  have ozs : Ext Z.heap κ.s.heap := by rw [hs]; exact oz
  have bc0 : ¬ c0 < 0 ∧ ¬ 65535 < c0 := ⟨(hL c0 (by simp)).1, le255 (hL c0 (by simp)).2⟩
  have bc1 : ¬ c1 < 0 ∧ ¬ 65535 < c1 := ⟨(hL c1 (by simp)).1, le255 (hL c1 (by simp)).2⟩
  have bc2 : ¬ c2 < 0 ∧ ¬ 65535 < c2 := ⟨(hL c2 (by simp)).1, le255 (hL c2 (by simp)).2⟩
  have bc3 : ¬ c3 < 0 ∧ ¬ 65535 < c3 := ⟨(hL c3 (by simp)).1, le255 (hL c3 (by simp)).2⟩
  have bc4 : ¬ c4 < 0 ∧ ¬ 65535 < c4 := ⟨(hL c4 (by simp)).1, le255 (hL c4 (by simp)).2⟩
  have bc5 : ¬ c5 < 0 ∧ ¬ 65535 < c5 := ⟨(hL c5 (by simp)).1, le255 (hL c5 (by simp)).2⟩
  have bc6 : ¬ c6 < 0 ∧ ¬ 65535 < c6 := ⟨(hL c6 (by simp)).1, le255 (hL c6 (by simp)).2⟩
  have bc7 : ¬ c7 < 0 ∧ ¬ 65535 < c7 := ⟨(hL c7 (by simp)).1, le255 (hL c7 (by simp)).2⟩
  have bc8 : ¬ c8 < 0 ∧ ¬ 65535 < c8 := ⟨(hL c8 (by simp)).1, le255 (hL c8 (by simp)).2⟩
  obtain rfl | rfl | rfl | rfl | rfl | rfl | rfl | rfl | rfl | rfl : n = 0 ∨ n = 1 ∨ n = 2 ∨ n = 3 ∨ n = 4 ∨ n = 5 ∨ n = 6 ∨ n = 7 ∨ n = 8 ∨ n = 9 := by omega
  · show Go κ _ T 0 #[.val (.int (Int32.ofNat 0)), .val (.int c0), .val (.int c1), .val (.int c2), .val (.int c3), .val (.int c4), .val (.int c5), .val (.int c6), .val (.int c7), .val (.int c8)] []
    refine blk (pc' := 1) (Ls' := #[.val (.int (Int32.ofNat 0)), .val (.int c0), .val (.int c1), .val (.int c2), .val (.int c3), .val (.int c4), .val (.int c5), .val (.int c6), .val (.int c7), .val (.int c8)]) (st' := [(.int (Int32.ofNat 0))]) [oIloadN w.ok (dc.g 0 rfl)] rfl ?_
    refine zNe (pc' := 15) w.ok (dc.g 1 rfl) (by decide) (by decide) (fun hc206 => absurd (by decide) hc206) (fun hc206 => ?_)
    show Go κ _ T 4 #[.val (.int (Int32.ofNat 0)), .val (.int c0), .val (.int c1), .val (.int c2), .val (.int c3), .val (.int c4), .val (.int c5), .val (.int c6), .val (.int c7), .val (.int c8)] []
    refine w.new (wd hw 50 rfl) (wd hw 2 rfl) (wd hw 1 rfl) (dc.g 2 rfl) (by decide) (by decide) ?_
    intro T207 h209 x210 w208 g211 E212 X213 D214 S215
    show Go κ _ T207 7 #[.val (.int (Int32.ofNat 0)), .val (.int c0), .val (.int c1), .val (.int c2), .val (.int c3), .val (.int c4), .val (.int c5), .val (.int c6), .val (.int c7), .val (.int c8)] [(.ref x210)]
    refine blk (pc' := 9) (Ls' := #[.val (.int (Int32.ofNat 0)), .val (.int c0), .val (.int c1), .val (.int c2), .val (.int c3), .val (.int c4), .val (.int c5), .val (.int c6), .val (.int c7), .val (.int c8)]) (st' := [(.int (0 : Int32)), (.ref x210), (.ref x210)]) [oDup w208.ok (dc.g 3 rfl), oIconst w208.ok (dc.g 4 rfl)] rfl ?_
    refine w208.newarr (aty := .char) (wd hw 51 rfl) (dc.g 5 rfl) (c := 0) (by decide) (by decide) (cap := 0) (by first | decide | omega) (by first | decide | omega) (by decide) (by decide) rfl rfl ?_
    intro T216 h218 x219 w217 g220 E221 F222 S223
    show Go κ _ T216 11 #[.val (.int (Int32.ofNat 0)), .val (.int c0), .val (.int c1), .val (.int c2), .val (.int c3), .val (.int c4), .val (.int c5), .val (.int c6), .val (.int c7), .val (.int c8)] [(.ref x219), (.ref x210), (.ref x210)]
    have SS224 := Safe.ext E221 w208.chv S215
    have XX225 := X213.ext E221
    have FV226 := (D214 (Or.inr (wd hw 4 rfl)) (ty := .array .byte) (by decide)).ext E221
    have FC227 := (D214 (Or.inr (wd hw 5 rfl)) (ty := .byte) (by decide)).ext E221
    have KK228 := ((Keep.refl h []).ext E212).ext E221
    have hx230 : h.size ≤ x210 := by rw [g211]; exact Nat.le_refl _
    have hg231 : h.size ≤ x219 := by rw [g220]; exact E212.1
    refine w217.callI rfl (wd hw 52 rfl) (wd hw 53 rfl) (wd hw 54 rfl) (by decide) (a := x210) (argsL := [(.ref x219)]) (Wd := 1) (Ctr.pays (len := 3) (Wd := 1) (c_si1 l Z a0 hw hEL hJS (cs := ([] : List Int32)) (w217.old ozs) XX225 FV226 FC227 (Nat.le_trans oz.1 hx230) F222 (by simp) (fun c hc => hL c (by cases hc))) w217 (wd hw 54 rfl) (wd hw 1 rfl) hEL (by decide) (by decide) (sfOne XX225.lt SS224)) pd12 rfl (st := [(.ref x210)]) rfl rfl (Nat.le_of_eq rfl) (dc.g 6 rfl) (by decide) (by decide) ?_
    intro vm232 T233 h234 v235 w236 C237 Q238
    obtain ⟨rfl, K239, FS240⟩ := Q238
    show Go κ _ T233 14 #[.val (.int (Int32.ofNat 0)), .val (.int c0), .val (.int c1), .val (.int c2), .val (.int c3), .val (.int c4), .val (.int c5), .val (.int c6), .val (.int c7), .val (.int c8)] [(.ref x210)]
    have K241 := KK228.trans K239 (allS (Or.inr hx230) all0)
    exact w236.retA rfl rfl rfl rfl (dc.g 7 rfl) (by decide) (by decide) (fun S hS => ⟨K241, _, rfl, FS240⟩)
  · show Go κ _ T 0 #[.val (.int (Int32.ofNat 1)), .val (.int c0), .val (.int c1), .val (.int c2), .val (.int c3), .val (.int c4), .val (.int c5), .val (.int c6), .val (.int c7), .val (.int c8)] []
    refine blk (pc' := 1) (Ls' := #[.val (.int (Int32.ofNat 1)), .val (.int c0), .val (.int c1), .val (.int c2), .val (.int c3), .val (.int c4), .val (.int c5), .val (.int c6), .val (.int c7), .val (.int c8)]) (st' := [(.int (Int32.ofNat 1))]) [oIloadN w.ok (dc.g 0 rfl)] rfl ?_
    refine zNe (pc' := 15) w.ok (dc.g 1 rfl) (by decide) (by decide) (fun hc242 => ?_) (fun hc242 => absurd hc242 (by decide))
    show Go κ _ T 15 #[.val (.int (Int32.ofNat 1)), .val (.int c0), .val (.int c1), .val (.int c2), .val (.int c3), .val (.int c4), .val (.int c5), .val (.int c6), .val (.int c7), .val (.int c8)] []
    refine blk (pc' := 17) (Ls' := #[.val (.int (Int32.ofNat 1)), .val (.int c0), .val (.int c1), .val (.int c2), .val (.int c3), .val (.int c4), .val (.int c5), .val (.int c6), .val (.int c7), .val (.int c8)]) (st' := [(.int (1 : Int32)), (.int (Int32.ofNat 1))]) [oIloadN w.ok (dc.g 8 rfl), oIconst w.ok (dc.g 9 rfl)] rfl ?_
    refine cNe (pc' := 35) w.ok (dc.g 10 rfl) (by decide) (by decide) (fun hc243 => absurd (by decide) hc243) (fun hc243 => ?_)
    show Go κ _ T 20 #[.val (.int (Int32.ofNat 1)), .val (.int c0), .val (.int c1), .val (.int c2), .val (.int c3), .val (.int c4), .val (.int c5), .val (.int c6), .val (.int c7), .val (.int c8)] []
    refine w.new (wd hw 50 rfl) (wd hw 2 rfl) (wd hw 1 rfl) (dc.g 11 rfl) (by decide) (by decide) ?_
    intro T244 h246 x247 w245 g248 E249 X250 D251 S252
    show Go κ _ T244 23 #[.val (.int (Int32.ofNat 1)), .val (.int c0), .val (.int c1), .val (.int c2), .val (.int c3), .val (.int c4), .val (.int c5), .val (.int c6), .val (.int c7), .val (.int c8)] [(.ref x247)]
    refine blk (pc' := 25) (Ls' := #[.val (.int (Int32.ofNat 1)), .val (.int c0), .val (.int c1), .val (.int c2), .val (.int c3), .val (.int c4), .val (.int c5), .val (.int c6), .val (.int c7), .val (.int c8)]) (st' := [(.int (1 : Int32)), (.ref x247), (.ref x247)]) [oDup w245.ok (dc.g 12 rfl), oIconst w245.ok (dc.g 13 rfl)] rfl ?_
    refine w245.newarr (aty := .char) (wd hw 51 rfl) (dc.g 14 rfl) (c := 1) (by decide) (by decide) (cap := 1) (by first | decide | omega) (by first | decide | omega) (by decide) (by decide) rfl rfl ?_
    intro T253 h255 x256 w254 g257 E258 F259 S260
    show Go κ _ T253 27 #[.val (.int (Int32.ofNat 1)), .val (.int c0), .val (.int c1), .val (.int c2), .val (.int c3), .val (.int c4), .val (.int c5), .val (.int c6), .val (.int c7), .val (.int c8)] [(.ref x256), (.ref x247), (.ref x247)]
    have SS261 := Safe.ext E258 w245.chv S252
    have XX262 := X250.ext E258
    have FV263 := (D251 (Or.inr (wd hw 4 rfl)) (ty := .array .byte) (by decide)).ext E258
    have FC264 := (D251 (Or.inr (wd hw 5 rfl)) (ty := .byte) (by decide)).ext E258
    have KK265 := ((Keep.refl h []).ext E249).ext E258
    have hx267 : h.size ≤ x247 := by rw [g248]; exact Nat.le_refl _
    have hg268 : h.size ≤ x256 := by rw [g257]; exact E249.1
    refine blk (pc' := 30) (Ls' := #[.val (.int (Int32.ofNat 1)), .val (.int c0), .val (.int c1), .val (.int c2), .val (.int c3), .val (.int c4), .val (.int c5), .val (.int c6), .val (.int c7), .val (.int c8)]) (st' := [(.int c0), (.int (0 : Int32)), (.ref x256), (.ref x256), (.ref x247), (.ref x247)]) [oDup w254.ok (dc.g 15 rfl), oIconst w254.ok (dc.g 16 rfl), oIloadN w254.ok (dc.g 17 rfl)] rfl ?_
    refine w254.cst F259 (i := 0) rfl (by simp) (narCh (bc0).1 (bc0).2) (fitsCh (bc0).1 (bc0).2) (Nat.le_trans oz.1 hg268) (dc.g 18 rfl) ?_
    intro T269 h271 w270 W272 F273
    show Go κ _ T269 31 #[.val (.int (Int32.ofNat 1)), .val (.int c0), .val (.int c1), .val (.int c2), .val (.int c3), .val (.int c4), .val (.int c5), .val (.int c6), .val (.int c7), .val (.int c8)] [(.ref x256), (.ref x247), (.ref x247)]
    obtain ⟨slW272, vvW272, WW272⟩ := W272
    have ne279 : x247 ≠ x256 := Ne.symm (F259.ne_exa XX262 (wd hw 2 rfl))
    have SS274 := Safe.wr WW272 (F259.safe w254.alike (by decide)) w254.chv SS261
    have XX275 := XX262.wr WW272
    have FV276 := FV263.other WW272 (Or.inl ne279)
    have FC277 := FC264.other WW272 (Or.inl ne279)
    have KK278 := KK265.wr WW272 (Or.inr hg268)
    refine w270.callI rfl (wd hw 52 rfl) (wd hw 53 rfl) (wd hw 54 rfl) (by decide) (a := x247) (argsL := [(.ref x256)]) (Wd := 1) (Ctr.pays (len := 3) (Wd := 1) (c_si1 l Z a0 hw hEL hJS (cs := ([c0] : List Int32)) (w270.old ozs) XX275 FV276 FC277 (Nat.le_trans oz.1 hx267) F273 (by simp) (fun c hc => hL c (by simp at hc ⊢; subst hc; simp))) w270 (wd hw 54 rfl) (wd hw 1 rfl) hEL (by decide) (by decide) (sfOne XX275.lt SS274)) pd12 rfl (st := [(.ref x247)]) rfl rfl (Nat.le_of_eq rfl) (dc.g 19 rfl) (by decide) (by decide) ?_
    intro vm280 T281 h282 v283 w284 C285 Q286
    obtain ⟨rfl, K287, FS288⟩ := Q286
    show Go κ _ T281 34 #[.val (.int (Int32.ofNat 1)), .val (.int c0), .val (.int c1), .val (.int c2), .val (.int c3), .val (.int c4), .val (.int c5), .val (.int c6), .val (.int c7), .val (.int c8)] [(.ref x247)]
    have K289 := KK278.trans K287 (allS (Or.inr hx267) all0)
    exact w284.retA rfl rfl rfl rfl (dc.g 20 rfl) (by decide) (by decide) (fun S hS => ⟨K289, _, rfl, FS288⟩)
  · show Go κ _ T 0 #[.val (.int (Int32.ofNat 2)), .val (.int c0), .val (.int c1), .val (.int c2), .val (.int c3), .val (.int c4), .val (.int c5), .val (.int c6), .val (.int c7), .val (.int c8)] []
    refine blk (pc' := 1) (Ls' := #[.val (.int (Int32.ofNat 2)), .val (.int c0), .val (.int c1), .val (.int c2), .val (.int c3), .val (.int c4), .val (.int c5), .val (.int c6), .val (.int c7), .val (.int c8)]) (st' := [(.int (Int32.ofNat 2))]) [oIloadN w.ok (dc.g 0 rfl)] rfl ?_
    refine zNe (pc' := 15) w.ok (dc.g 1 rfl) (by decide) (by decide) (fun hc290 => ?_) (fun hc290 => absurd hc290 (by decide))
    show Go κ _ T 15 #[.val (.int (Int32.ofNat 2)), .val (.int c0), .val (.int c1), .val (.int c2), .val (.int c3), .val (.int c4), .val (.int c5), .val (.int c6), .val (.int c7), .val (.int c8)] []
    refine blk (pc' := 17) (Ls' := #[.val (.int (Int32.ofNat 2)), .val (.int c0), .val (.int c1), .val (.int c2), .val (.int c3), .val (.int c4), .val (.int c5), .val (.int c6), .val (.int c7), .val (.int c8)]) (st' := [(.int (1 : Int32)), (.int (Int32.ofNat 2))]) [oIloadN w.ok (dc.g 8 rfl), oIconst w.ok (dc.g 9 rfl)] rfl ?_
    refine cNe (pc' := 35) w.ok (dc.g 10 rfl) (by decide) (by decide) (fun hc291 => ?_) (fun hc291 => absurd hc291 (by decide))
    show Go κ _ T 35 #[.val (.int (Int32.ofNat 2)), .val (.int c0), .val (.int c1), .val (.int c2), .val (.int c3), .val (.int c4), .val (.int c5), .val (.int c6), .val (.int c7), .val (.int c8)] []
    refine blk (pc' := 37) (Ls' := #[.val (.int (Int32.ofNat 2)), .val (.int c0), .val (.int c1), .val (.int c2), .val (.int c3), .val (.int c4), .val (.int c5), .val (.int c6), .val (.int c7), .val (.int c8)]) (st' := [(.int (2 : Int32)), (.int (Int32.ofNat 2))]) [oIloadN w.ok (dc.g 21 rfl), oIconst w.ok (dc.g 22 rfl)] rfl ?_
    refine cNe (pc' := 59) w.ok (dc.g 23 rfl) (by decide) (by decide) (fun hc292 => absurd (by decide) hc292) (fun hc292 => ?_)
    show Go κ _ T 40 #[.val (.int (Int32.ofNat 2)), .val (.int c0), .val (.int c1), .val (.int c2), .val (.int c3), .val (.int c4), .val (.int c5), .val (.int c6), .val (.int c7), .val (.int c8)] []
    refine w.new (wd hw 50 rfl) (wd hw 2 rfl) (wd hw 1 rfl) (dc.g 24 rfl) (by decide) (by decide) ?_
    intro T293 h295 x296 w294 g297 E298 X299 D300 S301
    show Go κ _ T293 43 #[.val (.int (Int32.ofNat 2)), .val (.int c0), .val (.int c1), .val (.int c2), .val (.int c3), .val (.int c4), .val (.int c5), .val (.int c6), .val (.int c7), .val (.int c8)] [(.ref x296)]
    refine blk (pc' := 45) (Ls' := #[.val (.int (Int32.ofNat 2)), .val (.int c0), .val (.int c1), .val (.int c2), .val (.int c3), .val (.int c4), .val (.int c5), .val (.int c6), .val (.int c7), .val (.int c8)]) (st' := [(.int (2 : Int32)), (.ref x296), (.ref x296)]) [oDup w294.ok (dc.g 25 rfl), oIconst w294.ok (dc.g 26 rfl)] rfl ?_
    refine w294.newarr (aty := .char) (wd hw 51 rfl) (dc.g 27 rfl) (c := 2) (by decide) (by decide) (cap := 2) (by first | decide | omega) (by first | decide | omega) (by decide) (by decide) rfl rfl ?_
    intro T302 h304 x305 w303 g306 E307 F308 S309
    show Go κ _ T302 47 #[.val (.int (Int32.ofNat 2)), .val (.int c0), .val (.int c1), .val (.int c2), .val (.int c3), .val (.int c4), .val (.int c5), .val (.int c6), .val (.int c7), .val (.int c8)] [(.ref x305), (.ref x296), (.ref x296)]
    have SS310 := Safe.ext E307 w294.chv S301
    have XX311 := X299.ext E307
    have FV312 := (D300 (Or.inr (wd hw 4 rfl)) (ty := .array .byte) (by decide)).ext E307
    have FC313 := (D300 (Or.inr (wd hw 5 rfl)) (ty := .byte) (by decide)).ext E307
    have KK314 := ((Keep.refl h []).ext E298).ext E307
    have hx316 : h.size ≤ x296 := by rw [g297]; exact Nat.le_refl _
    have hg317 : h.size ≤ x305 := by rw [g306]; exact E298.1
    refine blk (pc' := 50) (Ls' := #[.val (.int (Int32.ofNat 2)), .val (.int c0), .val (.int c1), .val (.int c2), .val (.int c3), .val (.int c4), .val (.int c5), .val (.int c6), .val (.int c7), .val (.int c8)]) (st' := [(.int c0), (.int (0 : Int32)), (.ref x305), (.ref x305), (.ref x296), (.ref x296)]) [oDup w303.ok (dc.g 28 rfl), oIconst w303.ok (dc.g 29 rfl), oIloadN w303.ok (dc.g 30 rfl)] rfl ?_
    refine w303.cst F308 (i := 0) rfl (by simp) (narCh (bc0).1 (bc0).2) (fitsCh (bc0).1 (bc0).2) (Nat.le_trans oz.1 hg317) (dc.g 31 rfl) ?_
    intro T318 h320 w319 W321 F322
    show Go κ _ T318 51 #[.val (.int (Int32.ofNat 2)), .val (.int c0), .val (.int c1), .val (.int c2), .val (.int c3), .val (.int c4), .val (.int c5), .val (.int c6), .val (.int c7), .val (.int c8)] [(.ref x305), (.ref x296), (.ref x296)]
    obtain ⟨slW321, vvW321, WW321⟩ := W321
    have ne328 : x296 ≠ x305 := Ne.symm (F308.ne_exa XX311 (wd hw 2 rfl))
    have SS323 := Safe.wr WW321 (F308.safe w303.alike (by decide)) w303.chv SS310
    have XX324 := XX311.wr WW321
    have FV325 := FV312.other WW321 (Or.inl ne328)
    have FC326 := FC313.other WW321 (Or.inl ne328)
    have KK327 := KK314.wr WW321 (Or.inr hg317)
    refine blk (pc' := 54) (Ls' := #[.val (.int (Int32.ofNat 2)), .val (.int c0), .val (.int c1), .val (.int c2), .val (.int c3), .val (.int c4), .val (.int c5), .val (.int c6), .val (.int c7), .val (.int c8)]) (st' := [(.int c1), (.int (1 : Int32)), (.ref x305), (.ref x305), (.ref x296), (.ref x296)]) [oDup w319.ok (dc.g 32 rfl), oIconst w319.ok (dc.g 33 rfl), oIloadN w319.ok (dc.g 34 rfl)] rfl ?_
    refine w319.cst F322 (i := 1) rfl (by simp) (narCh (bc1).1 (bc1).2) (fitsCh (bc1).1 (bc1).2) (Nat.le_trans oz.1 hg317) (dc.g 35 rfl) ?_
    intro T329 h331 w330 W332 F333
    show Go κ _ T329 55 #[.val (.int (Int32.ofNat 2)), .val (.int c0), .val (.int c1), .val (.int c2), .val (.int c3), .val (.int c4), .val (.int c5), .val (.int c6), .val (.int c7), .val (.int c8)] [(.ref x305), (.ref x296), (.ref x296)]
    obtain ⟨slW332, vvW332, WW332⟩ := W332
    have ne339 : x296 ≠ x305 := Ne.symm (F322.ne_exa XX324 (wd hw 2 rfl))
    have SS334 := Safe.wr WW332 (F322.safe w319.alike (by decide)) w319.chv SS323
    have XX335 := XX324.wr WW332
    have FV336 := FV325.other WW332 (Or.inl ne339)
    have FC337 := FC326.other WW332 (Or.inl ne339)
    have KK338 := KK327.wr WW332 (Or.inr hg317)
    refine w330.callI rfl (wd hw 52 rfl) (wd hw 53 rfl) (wd hw 54 rfl) (by decide) (a := x296) (argsL := [(.ref x305)]) (Wd := 1) (Ctr.pays (len := 3) (Wd := 1) (c_si1 l Z a0 hw hEL hJS (cs := ([c0, c1] : List Int32)) (w330.old ozs) XX335 FV336 FC337 (Nat.le_trans oz.1 hx316) F333 (by simp) (fun c hc => hL c (by simp at hc ⊢; rcases hc with rfl | rfl <;> simp))) w330 (wd hw 54 rfl) (wd hw 1 rfl) hEL (by decide) (by decide) (sfOne XX335.lt SS334)) pd12 rfl (st := [(.ref x296)]) rfl rfl (Nat.le_of_eq rfl) (dc.g 36 rfl) (by decide) (by decide) ?_
    intro vm340 T341 h342 v343 w344 C345 Q346
    obtain ⟨rfl, K347, FS348⟩ := Q346
    show Go κ _ T341 58 #[.val (.int (Int32.ofNat 2)), .val (.int c0), .val (.int c1), .val (.int c2), .val (.int c3), .val (.int c4), .val (.int c5), .val (.int c6), .val (.int c7), .val (.int c8)] [(.ref x296)]
    have K349 := KK338.trans K347 (allS (Or.inr hx316) all0)
    exact w344.retA rfl rfl rfl rfl (dc.g 37 rfl) (by decide) (by decide) (fun S hS => ⟨K349, _, rfl, FS348⟩)
  · show Go κ _ T 0 #[.val (.int (Int32.ofNat 3)), .val (.int c0), .val (.int c1), .val (.int c2), .val (.int c3), .val (.int c4), .val (.int c5), .val (.int c6), .val (.int c7), .val (.int c8)] []
    refine blk (pc' := 1) (Ls' := #[.val (.int (Int32.ofNat 3)), .val (.int c0), .val (.int c1), .val (.int c2), .val (.int c3), .val (.int c4), .val (.int c5), .val (.int c6), .val (.int c7), .val (.int c8)]) (st' := [(.int (Int32.ofNat 3))]) [oIloadN w.ok (dc.g 0 rfl)] rfl ?_
    refine zNe (pc' := 15) w.ok (dc.g 1 rfl) (by decide) (by decide) (fun hc350 => ?_) (fun hc350 => absurd hc350 (by decide))
    show Go κ _ T 15 #[.val (.int (Int32.ofNat 3)), .val (.int c0), .val (.int c1), .val (.int c2), .val (.int c3), .val (.int c4), .val (.int c5), .val (.int c6), .val (.int c7), .val (.int c8)] []
    refine blk (pc' := 17) (Ls' := #[.val (.int (Int32.ofNat 3)), .val (.int c0), .val (.int c1), .val (.int c2), .val (.int c3), .val (.int c4), .val (.int c5), .val (.int c6), .val (.int c7), .val (.int c8)]) (st' := [(.int (1 : Int32)), (.int (Int32.ofNat 3))]) [oIloadN w.ok (dc.g 8 rfl), oIconst w.ok (dc.g 9 rfl)] rfl ?_
    refine cNe (pc' := 35) w.ok (dc.g 10 rfl) (by decide) (by decide) (fun hc351 => ?_) (fun hc351 => absurd hc351 (by decide))
    show Go κ _ T 35 #[.val (.int (Int32.ofNat 3)), .val (.int c0), .val (.int c1), .val (.int c2), .val (.int c3), .val (.int c4), .val (.int c5), .val (.int c6), .val (.int c7), .val (.int c8)] []
    refine blk (pc' := 37) (Ls' := #[.val (.int (Int32.ofNat 3)), .val (.int c0), .val (.int c1), .val (.int c2), .val (.int c3), .val (.int c4), .val (.int c5), .val (.int c6), .val (.int c7), .val (.int c8)]) (st' := [(.int (2 : Int32)), (.int (Int32.ofNat 3))]) [oIloadN w.ok (dc.g 21 rfl), oIconst w.ok (dc.g 22 rfl)] rfl ?_
    refine cNe (pc' := 59) w.ok (dc.g 23 rfl) (by decide) (by decide) (fun hc352 => ?_) (fun hc352 => absurd hc352 (by decide))
    show Go κ _ T 59 #[.val (.int (Int32.ofNat 3)), .val (.int c0), .val (.int c1), .val (.int c2), .val (.int c3), .val (.int c4), .val (.int c5), .val (.int c6), .val (.int c7), .val (.int c8)] []
    refine blk (pc' := 61) (Ls' := #[.val (.int (Int32.ofNat 3)), .val (.int c0), .val (.int c1), .val (.int c2), .val (.int c3), .val (.int c4), .val (.int c5), .val (.int c6), .val (.int c7), .val (.int c8)]) (st' := [(.int (3 : Int32)), (.int (Int32.ofNat 3))]) [oIloadN w.ok (dc.g 38 rfl), oIconst w.ok (dc.g 39 rfl)] rfl ?_
    refine cNe (pc' := 87) w.ok (dc.g 40 rfl) (by decide) (by decide) (fun hc353 => absurd (by decide) hc353) (fun hc353 => ?_)
    show Go κ _ T 64 #[.val (.int (Int32.ofNat 3)), .val (.int c0), .val (.int c1), .val (.int c2), .val (.int c3), .val (.int c4), .val (.int c5), .val (.int c6), .val (.int c7), .val (.int c8)] []
    refine w.new (wd hw 50 rfl) (wd hw 2 rfl) (wd hw 1 rfl) (dc.g 41 rfl) (by decide) (by decide) ?_
    intro T354 h356 x357 w355 g358 E359 X360 D361 S362
    show Go κ _ T354 67 #[.val (.int (Int32.ofNat 3)), .val (.int c0), .val (.int c1), .val (.int c2), .val (.int c3), .val (.int c4), .val (.int c5), .val (.int c6), .val (.int c7), .val (.int c8)] [(.ref x357)]
    refine blk (pc' := 69) (Ls' := #[.val (.int (Int32.ofNat 3)), .val (.int c0), .val (.int c1), .val (.int c2), .val (.int c3), .val (.int c4), .val (.int c5), .val (.int c6), .val (.int c7), .val (.int c8)]) (st' := [(.int (3 : Int32)), (.ref x357), (.ref x357)]) [oDup w355.ok (dc.g 42 rfl), oIconst w355.ok (dc.g 43 rfl)] rfl ?_
    refine w355.newarr (aty := .char) (wd hw 51 rfl) (dc.g 44 rfl) (c := 3) (by decide) (by decide) (cap := 3) (by first | decide | omega) (by first | decide | omega) (by decide) (by decide) rfl rfl ?_
    intro T363 h365 x366 w364 g367 E368 F369 S370
    show Go κ _ T363 71 #[.val (.int (Int32.ofNat 3)), .val (.int c0), .val (.int c1), .val (.int c2), .val (.int c3), .val (.int c4), .val (.int c5), .val (.int c6), .val (.int c7), .val (.int c8)] [(.ref x366), (.ref x357), (.ref x357)]
    have SS371 := Safe.ext E368 w355.chv S362
    have XX372 := X360.ext E368
    have FV373 := (D361 (Or.inr (wd hw 4 rfl)) (ty := .array .byte) (by decide)).ext E368
    have FC374 := (D361 (Or.inr (wd hw 5 rfl)) (ty := .byte) (by decide)).ext E368
    have KK375 := ((Keep.refl h []).ext E359).ext E368
    have hx377 : h.size ≤ x357 := by rw [g358]; exact Nat.le_refl _
    have hg378 : h.size ≤ x366 := by rw [g367]; exact E359.1
    refine blk (pc' := 74) (Ls' := #[.val (.int (Int32.ofNat 3)), .val (.int c0), .val (.int c1), .val (.int c2), .val (.int c3), .val (.int c4), .val (.int c5), .val (.int c6), .val (.int c7), .val (.int c8)]) (st' := [(.int c0), (.int (0 : Int32)), (.ref x366), (.ref x366), (.ref x357), (.ref x357)]) [oDup w364.ok (dc.g 45 rfl), oIconst w364.ok (dc.g 46 rfl), oIloadN w364.ok (dc.g 47 rfl)] rfl ?_
    refine w364.cst F369 (i := 0) rfl (by simp) (narCh (bc0).1 (bc0).2) (fitsCh (bc0).1 (bc0).2) (Nat.le_trans oz.1 hg378) (dc.g 48 rfl) ?_
    intro T379 h381 w380 W382 F383
    show Go κ _ T379 75 #[.val (.int (Int32.ofNat 3)), .val (.int c0), .val (.int c1), .val (.int c2), .val (.int c3), .val (.int c4), .val (.int c5), .val (.int c6), .val (.int c7), .val (.int c8)] [(.ref x366), (.ref x357), (.ref x357)]
    obtain ⟨slW382, vvW382, WW382⟩ := W382
    have ne389 : x357 ≠ x366 := Ne.symm (F369.ne_exa XX372 (wd hw 2 rfl))
    have SS384 := Safe.wr WW382 (F369.safe w364.alike (by decide)) w364.chv SS371
    have XX385 := XX372.wr WW382
    have FV386 := FV373.other WW382 (Or.inl ne389)
    have FC387 := FC374.other WW382 (Or.inl ne389)
    have KK388 := KK375.wr WW382 (Or.inr hg378)
    refine blk (pc' := 78) (Ls' := #[.val (.int (Int32.ofNat 3)), .val (.int c0), .val (.int c1), .val (.int c2), .val (.int c3), .val (.int c4), .val (.int c5), .val (.int c6), .val (.int c7), .val (.int c8)]) (st' := [(.int c1), (.int (1 : Int32)), (.ref x366), (.ref x366), (.ref x357), (.ref x357)]) [oDup w380.ok (dc.g 49 rfl), oIconst w380.ok (dc.g 50 rfl), oIloadN w380.ok (dc.g 51 rfl)] rfl ?_
    refine w380.cst F383 (i := 1) rfl (by simp) (narCh (bc1).1 (bc1).2) (fitsCh (bc1).1 (bc1).2) (Nat.le_trans oz.1 hg378) (dc.g 52 rfl) ?_
    intro T390 h392 w391 W393 F394
    show Go κ _ T390 79 #[.val (.int (Int32.ofNat 3)), .val (.int c0), .val (.int c1), .val (.int c2), .val (.int c3), .val (.int c4), .val (.int c5), .val (.int c6), .val (.int c7), .val (.int c8)] [(.ref x366), (.ref x357), (.ref x357)]
    obtain ⟨slW393, vvW393, WW393⟩ := W393
    have ne400 : x357 ≠ x366 := Ne.symm (F383.ne_exa XX385 (wd hw 2 rfl))
    have SS395 := Safe.wr WW393 (F383.safe w380.alike (by decide)) w380.chv SS384
    have XX396 := XX385.wr WW393
    have FV397 := FV386.other WW393 (Or.inl ne400)
    have FC398 := FC387.other WW393 (Or.inl ne400)
    have KK399 := KK388.wr WW393 (Or.inr hg378)
    refine blk (pc' := 82) (Ls' := #[.val (.int (Int32.ofNat 3)), .val (.int c0), .val (.int c1), .val (.int c2), .val (.int c3), .val (.int c4), .val (.int c5), .val (.int c6), .val (.int c7), .val (.int c8)]) (st' := [(.int c2), (.int (2 : Int32)), (.ref x366), (.ref x366), (.ref x357), (.ref x357)]) [oDup w391.ok (dc.g 53 rfl), oIconst w391.ok (dc.g 54 rfl), oIloadN w391.ok (dc.g 55 rfl)] rfl ?_
    refine w391.cst F394 (i := 2) rfl (by simp) (narCh (bc2).1 (bc2).2) (fitsCh (bc2).1 (bc2).2) (Nat.le_trans oz.1 hg378) (dc.g 56 rfl) ?_
    intro T401 h403 w402 W404 F405
    show Go κ _ T401 83 #[.val (.int (Int32.ofNat 3)), .val (.int c0), .val (.int c1), .val (.int c2), .val (.int c3), .val (.int c4), .val (.int c5), .val (.int c6), .val (.int c7), .val (.int c8)] [(.ref x366), (.ref x357), (.ref x357)]
    obtain ⟨slW404, vvW404, WW404⟩ := W404
    have ne411 : x357 ≠ x366 := Ne.symm (F394.ne_exa XX396 (wd hw 2 rfl))
    have SS406 := Safe.wr WW404 (F394.safe w391.alike (by decide)) w391.chv SS395
    have XX407 := XX396.wr WW404
    have FV408 := FV397.other WW404 (Or.inl ne411)
    have FC409 := FC398.other WW404 (Or.inl ne411)
    have KK410 := KK399.wr WW404 (Or.inr hg378)
    refine w402.callI rfl (wd hw 52 rfl) (wd hw 53 rfl) (wd hw 54 rfl) (by decide) (a := x357) (argsL := [(.ref x366)]) (Wd := 1) (Ctr.pays (len := 3) (Wd := 1) (c_si1 l Z a0 hw hEL hJS (cs := ([c0, c1, c2] : List Int32)) (w402.old ozs) XX407 FV408 FC409 (Nat.le_trans oz.1 hx377) F405 (by simp) (fun c hc => hL c (by simp at hc ⊢; rcases hc with rfl | rfl | rfl <;> simp))) w402 (wd hw 54 rfl) (wd hw 1 rfl) hEL (by decide) (by decide) (sfOne XX407.lt SS406)) pd12 rfl (st := [(.ref x357)]) rfl rfl (Nat.le_of_eq rfl) (dc.g 57 rfl) (by decide) (by decide) ?_
    intro vm412 T413 h414 v415 w416 C417 Q418
    obtain ⟨rfl, K419, FS420⟩ := Q418
    show Go κ _ T413 86 #[.val (.int (Int32.ofNat 3)), .val (.int c0), .val (.int c1), .val (.int c2), .val (.int c3), .val (.int c4), .val (.int c5), .val (.int c6), .val (.int c7), .val (.int c8)] [(.ref x357)]
    have K421 := KK410.trans K419 (allS (Or.inr hx377) all0)
    exact w416.retA rfl rfl rfl rfl (dc.g 58 rfl) (by decide) (by decide) (fun S hS => ⟨K421, _, rfl, FS420⟩)
  · show Go κ _ T 0 #[.val (.int (Int32.ofNat 4)), .val (.int c0), .val (.int c1), .val (.int c2), .val (.int c3), .val (.int c4), .val (.int c5), .val (.int c6), .val (.int c7), .val (.int c8)] []
    refine blk (pc' := 1) (Ls' := #[.val (.int (Int32.ofNat 4)), .val (.int c0), .val (.int c1), .val (.int c2), .val (.int c3), .val (.int c4), .val (.int c5), .val (.int c6), .val (.int c7), .val (.int c8)]) (st' := [(.int (Int32.ofNat 4))]) [oIloadN w.ok (dc.g 0 rfl)] rfl ?_
    refine zNe (pc' := 15) w.ok (dc.g 1 rfl) (by decide) (by decide) (fun hc422 => ?_) (fun hc422 => absurd hc422 (by decide))
    show Go κ _ T 15 #[.val (.int (Int32.ofNat 4)), .val (.int c0), .val (.int c1), .val (.int c2), .val (.int c3), .val (.int c4), .val (.int c5), .val (.int c6), .val (.int c7), .val (.int c8)] []
    refine blk (pc' := 17) (Ls' := #[.val (.int (Int32.ofNat 4)), .val (.int c0), .val (.int c1), .val (.int c2), .val (.int c3), .val (.int c4), .val (.int c5), .val (.int c6), .val (.int c7), .val (.int c8)]) (st' := [(.int (1 : Int32)), (.int (Int32.ofNat 4))]) [oIloadN w.ok (dc.g 8 rfl), oIconst w.ok (dc.g 9 rfl)] rfl ?_
    refine cNe (pc' := 35) w.ok (dc.g 10 rfl) (by decide) (by decide) (fun hc423 => ?_) (fun hc423 => absurd hc423 (by decide))
    show Go κ _ T 35 #[.val (.int (Int32.ofNat 4)), .val (.int c0), .val (.int c1), .val (.int c2), .val (.int c3), .val (.int c4), .val (.int c5), .val (.int c6), .val (.int c7), .val (.int c8)] []
    refine blk (pc' := 37) (Ls' := #[.val (.int (Int32.ofNat 4)), .val (.int c0), .val (.int c1), .val (.int c2), .val (.int c3), .val (.int c4), .val (.int c5), .val (.int c6), .val (.int c7), .val (.int c8)]) (st' := [(.int (2 : Int32)), (.int (Int32.ofNat 4))]) [oIloadN w.ok (dc.g 21 rfl), oIconst w.ok (dc.g 22 rfl)] rfl ?_
    refine cNe (pc' := 59) w.ok (dc.g 23 rfl) (by decide) (by decide) (fun hc424 => ?_) (fun hc424 => absurd hc424 (by decide))
    show Go κ _ T 59 #[.val (.int (Int32.ofNat 4)), .val (.int c0), .val (.int c1), .val (.int c2), .val (.int c3), .val (.int c4), .val (.int c5), .val (.int c6), .val (.int c7), .val (.int c8)] []
    refine blk (pc' := 61) (Ls' := #[.val (.int (Int32.ofNat 4)), .val (.int c0), .val (.int c1), .val (.int c2), .val (.int c3), .val (.int c4), .val (.int c5), .val (.int c6), .val (.int c7), .val (.int c8)]) (st' := [(.int (3 : Int32)), (.int (Int32.ofNat 4))]) [oIloadN w.ok (dc.g 38 rfl), oIconst w.ok (dc.g 39 rfl)] rfl ?_
    refine cNe (pc' := 87) w.ok (dc.g 40 rfl) (by decide) (by decide) (fun hc425 => ?_) (fun hc425 => absurd hc425 (by decide))
    show Go κ _ T 87 #[.val (.int (Int32.ofNat 4)), .val (.int c0), .val (.int c1), .val (.int c2), .val (.int c3), .val (.int c4), .val (.int c5), .val (.int c6), .val (.int c7), .val (.int c8)] []
    refine blk (pc' := 89) (Ls' := #[.val (.int (Int32.ofNat 4)), .val (.int c0), .val (.int c1), .val (.int c2), .val (.int c3), .val (.int c4), .val (.int c5), .val (.int c6), .val (.int c7), .val (.int c8)]) (st' := [(.int (4 : Int32)), (.int (Int32.ofNat 4))]) [oIloadN w.ok (dc.g 59 rfl), oIconst w.ok (dc.g 60 rfl)] rfl ?_
    refine cNe (pc' := 120) w.ok (dc.g 61 rfl) (by decide) (by decide) (fun hc426 => absurd (by decide) hc426) (fun hc426 => ?_)
    show Go κ _ T 92 #[.val (.int (Int32.ofNat 4)), .val (.int c0), .val (.int c1), .val (.int c2), .val (.int c3), .val (.int c4), .val (.int c5), .val (.int c6), .val (.int c7), .val (.int c8)] []
    refine w.new (wd hw 50 rfl) (wd hw 2 rfl) (wd hw 1 rfl) (dc.g 62 rfl) (by decide) (by decide) ?_
    intro T427 h429 x430 w428 g431 E432 X433 D434 S435
    show Go κ _ T427 95 #[.val (.int (Int32.ofNat 4)), .val (.int c0), .val (.int c1), .val (.int c2), .val (.int c3), .val (.int c4), .val (.int c5), .val (.int c6), .val (.int c7), .val (.int c8)] [(.ref x430)]
    refine blk (pc' := 97) (Ls' := #[.val (.int (Int32.ofNat 4)), .val (.int c0), .val (.int c1), .val (.int c2), .val (.int c3), .val (.int c4), .val (.int c5), .val (.int c6), .val (.int c7), .val (.int c8)]) (st' := [(.int (4 : Int32)), (.ref x430), (.ref x430)]) [oDup w428.ok (dc.g 63 rfl), oIconst w428.ok (dc.g 64 rfl)] rfl ?_
    refine w428.newarr (aty := .char) (wd hw 51 rfl) (dc.g 65 rfl) (c := 4) (by decide) (by decide) (cap := 4) (by first | decide | omega) (by first | decide | omega) (by decide) (by decide) rfl rfl ?_
    intro T436 h438 x439 w437 g440 E441 F442 S443
    show Go κ _ T436 99 #[.val (.int (Int32.ofNat 4)), .val (.int c0), .val (.int c1), .val (.int c2), .val (.int c3), .val (.int c4), .val (.int c5), .val (.int c6), .val (.int c7), .val (.int c8)] [(.ref x439), (.ref x430), (.ref x430)]
    have SS444 := Safe.ext E441 w428.chv S435
    have XX445 := X433.ext E441
    have FV446 := (D434 (Or.inr (wd hw 4 rfl)) (ty := .array .byte) (by decide)).ext E441
    have FC447 := (D434 (Or.inr (wd hw 5 rfl)) (ty := .byte) (by decide)).ext E441
    have KK448 := ((Keep.refl h []).ext E432).ext E441
    have hx450 : h.size ≤ x430 := by rw [g431]; exact Nat.le_refl _
    have hg451 : h.size ≤ x439 := by rw [g440]; exact E432.1
    refine blk (pc' := 102) (Ls' := #[.val (.int (Int32.ofNat 4)), .val (.int c0), .val (.int c1), .val (.int c2), .val (.int c3), .val (.int c4), .val (.int c5), .val (.int c6), .val (.int c7), .val (.int c8)]) (st' := [(.int c0), (.int (0 : Int32)), (.ref x439), (.ref x439), (.ref x430), (.ref x430)]) [oDup w437.ok (dc.g 66 rfl), oIconst w437.ok (dc.g 67 rfl), oIloadN w437.ok (dc.g 68 rfl)] rfl ?_
    refine w437.cst F442 (i := 0) rfl (by simp) (narCh (bc0).1 (bc0).2) (fitsCh (bc0).1 (bc0).2) (Nat.le_trans oz.1 hg451) (dc.g 69 rfl) ?_
    intro T452 h454 w453 W455 F456
    show Go κ _ T452 103 #[.val (.int (Int32.ofNat 4)), .val (.int c0), .val (.int c1), .val (.int c2), .val (.int c3), .val (.int c4), .val (.int c5), .val (.int c6), .val (.int c7), .val (.int c8)] [(.ref x439), (.ref x430), (.ref x430)]
    obtain ⟨slW455, vvW455, WW455⟩ := W455
    have ne462 : x430 ≠ x439 := Ne.symm (F442.ne_exa XX445 (wd hw 2 rfl))
    have SS457 := Safe.wr WW455 (F442.safe w437.alike (by decide)) w437.chv SS444
    have XX458 := XX445.wr WW455
    have FV459 := FV446.other WW455 (Or.inl ne462)
    have FC460 := FC447.other WW455 (Or.inl ne462)
    have KK461 := KK448.wr WW455 (Or.inr hg451)
    refine blk (pc' := 106) (Ls' := #[.val (.int (Int32.ofNat 4)), .val (.int c0), .val (.int c1), .val (.int c2), .val (.int c3), .val (.int c4), .val (.int c5), .val (.int c6), .val (.int c7), .val (.int c8)]) (st' := [(.int c1), (.int (1 : Int32)), (.ref x439), (.ref x439), (.ref x430), (.ref x430)]) [oDup w453.ok (dc.g 70 rfl), oIconst w453.ok (dc.g 71 rfl), oIloadN w453.ok (dc.g 72 rfl)] rfl ?_
    refine w453.cst F456 (i := 1) rfl (by simp) (narCh (bc1).1 (bc1).2) (fitsCh (bc1).1 (bc1).2) (Nat.le_trans oz.1 hg451) (dc.g 73 rfl) ?_
    intro T463 h465 w464 W466 F467
    show Go κ _ T463 107 #[.val (.int (Int32.ofNat 4)), .val (.int c0), .val (.int c1), .val (.int c2), .val (.int c3), .val (.int c4), .val (.int c5), .val (.int c6), .val (.int c7), .val (.int c8)] [(.ref x439), (.ref x430), (.ref x430)]
    obtain ⟨slW466, vvW466, WW466⟩ := W466
    have ne473 : x430 ≠ x439 := Ne.symm (F456.ne_exa XX458 (wd hw 2 rfl))
    have SS468 := Safe.wr WW466 (F456.safe w453.alike (by decide)) w453.chv SS457
    have XX469 := XX458.wr WW466
    have FV470 := FV459.other WW466 (Or.inl ne473)
    have FC471 := FC460.other WW466 (Or.inl ne473)
    have KK472 := KK461.wr WW466 (Or.inr hg451)
    refine blk (pc' := 110) (Ls' := #[.val (.int (Int32.ofNat 4)), .val (.int c0), .val (.int c1), .val (.int c2), .val (.int c3), .val (.int c4), .val (.int c5), .val (.int c6), .val (.int c7), .val (.int c8)]) (st' := [(.int c2), (.int (2 : Int32)), (.ref x439), (.ref x439), (.ref x430), (.ref x430)]) [oDup w464.ok (dc.g 74 rfl), oIconst w464.ok (dc.g 75 rfl), oIloadN w464.ok (dc.g 76 rfl)] rfl ?_
    refine w464.cst F467 (i := 2) rfl (by simp) (narCh (bc2).1 (bc2).2) (fitsCh (bc2).1 (bc2).2) (Nat.le_trans oz.1 hg451) (dc.g 77 rfl) ?_
    intro T474 h476 w475 W477 F478
    show Go κ _ T474 111 #[.val (.int (Int32.ofNat 4)), .val (.int c0), .val (.int c1), .val (.int c2), .val (.int c3), .val (.int c4), .val (.int c5), .val (.int c6), .val (.int c7), .val (.int c8)] [(.ref x439), (.ref x430), (.ref x430)]
    obtain ⟨slW477, vvW477, WW477⟩ := W477
    have ne484 : x430 ≠ x439 := Ne.symm (F467.ne_exa XX469 (wd hw 2 rfl))
    have SS479 := Safe.wr WW477 (F467.safe w464.alike (by decide)) w464.chv SS468
    have XX480 := XX469.wr WW477
    have FV481 := FV470.other WW477 (Or.inl ne484)
    have FC482 := FC471.other WW477 (Or.inl ne484)
    have KK483 := KK472.wr WW477 (Or.inr hg451)
    refine blk (pc' := 115) (Ls' := #[.val (.int (Int32.ofNat 4)), .val (.int c0), .val (.int c1), .val (.int c2), .val (.int c3), .val (.int c4), .val (.int c5), .val (.int c6), .val (.int c7), .val (.int c8)]) (st' := [(.int c3), (.int (3 : Int32)), (.ref x439), (.ref x439), (.ref x430), (.ref x430)]) [oDup w475.ok (dc.g 78 rfl), oIconst w475.ok (dc.g 79 rfl), oIload w475.ok (dc.g 80 rfl)] rfl ?_
    refine w475.cst F478 (i := 3) rfl (by simp) (narCh (bc3).1 (bc3).2) (fitsCh (bc3).1 (bc3).2) (Nat.le_trans oz.1 hg451) (dc.g 81 rfl) ?_
    intro T485 h487 w486 W488 F489
    show Go κ _ T485 116 #[.val (.int (Int32.ofNat 4)), .val (.int c0), .val (.int c1), .val (.int c2), .val (.int c3), .val (.int c4), .val (.int c5), .val (.int c6), .val (.int c7), .val (.int c8)] [(.ref x439), (.ref x430), (.ref x430)]
    obtain ⟨slW488, vvW488, WW488⟩ := W488
    have ne495 : x430 ≠ x439 := Ne.symm (F478.ne_exa XX480 (wd hw 2 rfl))
    have SS490 := Safe.wr WW488 (F478.safe w475.alike (by decide)) w475.chv SS479
    have XX491 := XX480.wr WW488
    have FV492 := FV481.other WW488 (Or.inl ne495)
    have FC493 := FC482.other WW488 (Or.inl ne495)
    have KK494 := KK483.wr WW488 (Or.inr hg451)
    refine w486.callI rfl (wd hw 52 rfl) (wd hw 53 rfl) (wd hw 54 rfl) (by decide) (a := x430) (argsL := [(.ref x439)]) (Wd := 1) (Ctr.pays (len := 3) (Wd := 1) (c_si1 l Z a0 hw hEL hJS (cs := ([c0, c1, c2, c3] : List Int32)) (w486.old ozs) XX491 FV492 FC493 (Nat.le_trans oz.1 hx450) F489 (by simp) (fun c hc => hL c (by simp at hc ⊢; rcases hc with rfl | rfl | rfl | rfl <;> simp))) w486 (wd hw 54 rfl) (wd hw 1 rfl) hEL (by decide) (by decide) (sfOne XX491.lt SS490)) pd12 rfl (st := [(.ref x430)]) rfl rfl (Nat.le_of_eq rfl) (dc.g 82 rfl) (by decide) (by decide) ?_
    intro vm496 T497 h498 v499 w500 C501 Q502
    obtain ⟨rfl, K503, FS504⟩ := Q502
    show Go κ _ T497 119 #[.val (.int (Int32.ofNat 4)), .val (.int c0), .val (.int c1), .val (.int c2), .val (.int c3), .val (.int c4), .val (.int c5), .val (.int c6), .val (.int c7), .val (.int c8)] [(.ref x430)]
    have K505 := KK494.trans K503 (allS (Or.inr hx450) all0)
    exact w500.retA rfl rfl rfl rfl (dc.g 83 rfl) (by decide) (by decide) (fun S hS => ⟨K505, _, rfl, FS504⟩)
  · show Go κ _ T 0 #[.val (.int (Int32.ofNat 5)), .val (.int c0), .val (.int c1), .val (.int c2), .val (.int c3), .val (.int c4), .val (.int c5), .val (.int c6), .val (.int c7), .val (.int c8)] []
    refine blk (pc' := 1) (Ls' := #[.val (.int (Int32.ofNat 5)), .val (.int c0), .val (.int c1), .val (.int c2), .val (.int c3), .val (.int c4), .val (.int c5), .val (.int c6), .val (.int c7), .val (.int c8)]) (st' := [(.int (Int32.ofNat 5))]) [oIloadN w.ok (dc.g 0 rfl)] rfl ?_
    refine zNe (pc' := 15) w.ok (dc.g 1 rfl) (by decide) (by decide) (fun hc506 => ?_) (fun hc506 => absurd hc506 (by decide))
    show Go κ _ T 15 #[.val (.int (Int32.ofNat 5)), .val (.int c0), .val (.int c1), .val (.int c2), .val (.int c3), .val (.int c4), .val (.int c5), .val (.int c6), .val (.int c7), .val (.int c8)] []
    refine blk (pc' := 17) (Ls' := #[.val (.int (Int32.ofNat 5)), .val (.int c0), .val (.int c1), .val (.int c2), .val (.int c3), .val (.int c4), .val (.int c5), .val (.int c6), .val (.int c7), .val (.int c8)]) (st' := [(.int (1 : Int32)), (.int (Int32.ofNat 5))]) [oIloadN w.ok (dc.g 8 rfl), oIconst w.ok (dc.g 9 rfl)] rfl ?_
    refine cNe (pc' := 35) w.ok (dc.g 10 rfl) (by decide) (by decide) (fun hc507 => ?_) (fun hc507 => absurd hc507 (by decide))
    show Go κ _ T 35 #[.val (.int (Int32.ofNat 5)), .val (.int c0), .val (.int c1), .val (.int c2), .val (.int c3), .val (.int c4), .val (.int c5), .val (.int c6), .val (.int c7), .val (.int c8)] []
    refine blk (pc' := 37) (Ls' := #[.val (.int (Int32.ofNat 5)), .val (.int c0), .val (.int c1), .val (.int c2), .val (.int c3), .val (.int c4), .val (.int c5), .val (.int c6), .val (.int c7), .val (.int c8)]) (st' := [(.int (2 : Int32)), (.int (Int32.ofNat 5))]) [oIloadN w.ok (dc.g 21 rfl), oIconst w.ok (dc.g 22 rfl)] rfl ?_
    refine cNe (pc' := 59) w.ok (dc.g 23 rfl) (by decide) (by decide) (fun hc508 => ?_) (fun hc508 => absurd hc508 (by decide))
    show Go κ _ T 59 #[.val (.int (Int32.ofNat 5)), .val (.int c0), .val (.int c1), .val (.int c2), .val (.int c3), .val (.int c4), .val (.int c5), .val (.int c6), .val (.int c7), .val (.int c8)] []
    refine blk (pc' := 61) (Ls' := #[.val (.int (Int32.ofNat 5)), .val (.int c0), .val (.int c1), .val (.int c2), .val (.int c3), .val (.int c4), .val (.int c5), .val (.int c6), .val (.int c7), .val (.int c8)]) (st' := [(.int (3 : Int32)), (.int (Int32.ofNat 5))]) [oIloadN w.ok (dc.g 38 rfl), oIconst w.ok (dc.g 39 rfl)] rfl ?_
    refine cNe (pc' := 87) w.ok (dc.g 40 rfl) (by decide) (by decide) (fun hc509 => ?_) (fun hc509 => absurd hc509 (by decide))
    show Go κ _ T 87 #[.val (.int (Int32.ofNat 5)), .val (.int c0), .val (.int c1), .val (.int c2), .val (.int c3), .val (.int c4), .val (.int c5), .val (.int c6), .val (.int c7), .val (.int c8)] []
    refine blk (pc' := 89) (Ls' := #[.val (.int (Int32.ofNat 5)), .val (.int c0), .val (.int c1), .val (.int c2), .val (.int c3), .val (.int c4), .val (.int c5), .val (.int c6), .val (.int c7), .val (.int c8)]) (st' := [(.int (4 : Int32)), (.int (Int32.ofNat 5))]) [oIloadN w.ok (dc.g 59 rfl), oIconst w.ok (dc.g 60 rfl)] rfl ?_
    refine cNe (pc' := 120) w.ok (dc.g 61 rfl) (by decide) (by decide) (fun hc510 => ?_) (fun hc510 => absurd hc510 (by decide))
    show Go κ _ T 120 #[.val (.int (Int32.ofNat 5)), .val (.int c0), .val (.int c1), .val (.int c2), .val (.int c3), .val (.int c4), .val (.int c5), .val (.int c6), .val (.int c7), .val (.int c8)] []
    refine blk (pc' := 122) (Ls' := #[.val (.int (Int32.ofNat 5)), .val (.int c0), .val (.int c1), .val (.int c2), .val (.int c3), .val (.int c4), .val (.int c5), .val (.int c6), .val (.int c7), .val (.int c8)]) (st' := [(.int (5 : Int32)), (.int (Int32.ofNat 5))]) [oIloadN w.ok (dc.g 84 rfl), oIconst w.ok (dc.g 85 rfl)] rfl ?_
    refine cNe (pc' := 158) w.ok (dc.g 86 rfl) (by decide) (by decide) (fun hc511 => absurd (by decide) hc511) (fun hc511 => ?_)
    show Go κ _ T 125 #[.val (.int (Int32.ofNat 5)), .val (.int c0), .val (.int c1), .val (.int c2), .val (.int c3), .val (.int c4), .val (.int c5), .val (.int c6), .val (.int c7), .val (.int c8)] []
    refine w.new (wd hw 50 rfl) (wd hw 2 rfl) (wd hw 1 rfl) (dc.g 87 rfl) (by decide) (by decide) ?_
    intro T512 h514 x515 w513 g516 E517 X518 D519 S520
    show Go κ _ T512 128 #[.val (.int (Int32.ofNat 5)), .val (.int c0), .val (.int c1), .val (.int c2), .val (.int c3), .val (.int c4), .val (.int c5), .val (.int c6), .val (.int c7), .val (.int c8)] [(.ref x515)]
    refine blk (pc' := 130) (Ls' := #[.val (.int (Int32.ofNat 5)), .val (.int c0), .val (.int c1), .val (.int c2), .val (.int c3), .val (.int c4), .val (.int c5), .val (.int c6), .val (.int c7), .val (.int c8)]) (st' := [(.int (5 : Int32)), (.ref x515), (.ref x515)]) [oDup w513.ok (dc.g 88 rfl), oIconst w513.ok (dc.g 89 rfl)] rfl ?_
    refine w513.newarr (aty := .char) (wd hw 51 rfl) (dc.g 90 rfl) (c := 5) (by decide) (by decide) (cap := 5) (by first | decide | omega) (by first | decide | omega) (by decide) (by decide) rfl rfl ?_
    intro T521 h523 x524 w522 g525 E526 F527 S528
    show Go κ _ T521 132 #[.val (.int (Int32.ofNat 5)), .val (.int c0), .val (.int c1), .val (.int c2), .val (.int c3), .val (.int c4), .val (.int c5), .val (.int c6), .val (.int c7), .val (.int c8)] [(.ref x524), (.ref x515), (.ref x515)]
    have SS529 := Safe.ext E526 w513.chv S520
    have XX530 := X518.ext E526
    have FV531 := (D519 (Or.inr (wd hw 4 rfl)) (ty := .array .byte) (by decide)).ext E526
    have FC532 := (D519 (Or.inr (wd hw 5 rfl)) (ty := .byte) (by decide)).ext E526
    have KK533 := ((Keep.refl h []).ext E517).ext E526
    have hx535 : h.size ≤ x515 := by rw [g516]; exact Nat.le_refl _
    have hg536 : h.size ≤ x524 := by rw [g525]; exact E517.1
    refine blk (pc' := 135) (Ls' := #[.val (.int (Int32.ofNat 5)), .val (.int c0), .val (.int c1), .val (.int c2), .val (.int c3), .val (.int c4), .val (.int c5), .val (.int c6), .val (.int c7), .val (.int c8)]) (st' := [(.int c0), (.int (0 : Int32)), (.ref x524), (.ref x524), (.ref x515), (.ref x515)]) [oDup w522.ok (dc.g 91 rfl), oIconst w522.ok (dc.g 92 rfl), oIloadN w522.ok (dc.g 93 rfl)] rfl ?_
    refine w522.cst F527 (i := 0) rfl (by simp) (narCh (bc0).1 (bc0).2) (fitsCh (bc0).1 (bc0).2) (Nat.le_trans oz.1 hg536) (dc.g 94 rfl) ?_
    intro T537 h539 w538 W540 F541
    show Go κ _ T537 136 #[.val (.int (Int32.ofNat 5)), .val (.int c0), .val (.int c1), .val (.int c2), .val (.int c3), .val (.int c4), .val (.int c5), .val (.int c6), .val (.int c7), .val (.int c8)] [(.ref x524), (.ref x515), (.ref x515)]
    obtain ⟨slW540, vvW540, WW540⟩ := W540
    have ne547 : x515 ≠ x524 := Ne.symm (F527.ne_exa XX530 (wd hw 2 rfl))
    have SS542 := Safe.wr WW540 (F527.safe w522.alike (by decide)) w522.chv SS529
    have XX543 := XX530.wr WW540
    have FV544 := FV531.other WW540 (Or.inl ne547)
    have FC545 := FC532.other WW540 (Or.inl ne547)
    have KK546 := KK533.wr WW540 (Or.inr hg536)
    refine blk (pc' := 139) (Ls' := #[.val (.int (Int32.ofNat 5)), .val (.int c0), .val (.int c1), .val (.int c2), .val (.int c3), .val (.int c4), .val (.int c5), .val (.int c6), .val (.int c7), .val (.int c8)]) (st' := [(.int c1), (.int (1 : Int32)), (.ref x524), (.ref x524), (.ref x515), (.ref x515)]) [oDup w538.ok (dc.g 95 rfl), oIconst w538.ok (dc.g 96 rfl), oIloadN w538.ok (dc.g 97 rfl)] rfl ?_
    refine w538.cst F541 (i := 1) rfl (by simp) (narCh (bc1).1 (bc1).2) (fitsCh (bc1).1 (bc1).2) (Nat.le_trans oz.1 hg536) (dc.g 98 rfl) ?_
    intro T548 h550 w549 W551 F552
    show Go κ _ T548 140 #[.val (.int (Int32.ofNat 5)), .val (.int c0), .val (.int c1), .val (.int c2), .val (.int c3), .val (.int c4), .val (.int c5), .val (.int c6), .val (.int c7), .val (.int c8)] [(.ref x524), (.ref x515), (.ref x515)]
    obtain ⟨slW551, vvW551, WW551⟩ := W551
    have ne558 : x515 ≠ x524 := Ne.symm (F541.ne_exa XX543 (wd hw 2 rfl))
    have SS553 := Safe.wr WW551 (F541.safe w538.alike (by decide)) w538.chv SS542
    have XX554 := XX543.wr WW551
    have FV555 := FV544.other WW551 (Or.inl ne558)
    have FC556 := FC545.other WW551 (Or.inl ne558)
    have KK557 := KK546.wr WW551 (Or.inr hg536)
    refine blk (pc' := 143) (Ls' := #[.val (.int (Int32.ofNat 5)), .val (.int c0), .val (.int c1), .val (.int c2), .val (.int c3), .val (.int c4), .val (.int c5), .val (.int c6), .val (.int c7), .val (.int c8)]) (st' := [(.int c2), (.int (2 : Int32)), (.ref x524), (.ref x524), (.ref x515), (.ref x515)]) [oDup w549.ok (dc.g 99 rfl), oIconst w549.ok (dc.g 100 rfl), oIloadN w549.ok (dc.g 101 rfl)] rfl ?_
    refine w549.cst F552 (i := 2) rfl (by simp) (narCh (bc2).1 (bc2).2) (fitsCh (bc2).1 (bc2).2) (Nat.le_trans oz.1 hg536) (dc.g 102 rfl) ?_
    intro T559 h561 w560 W562 F563
    show Go κ _ T559 144 #[.val (.int (Int32.ofNat 5)), .val (.int c0), .val (.int c1), .val (.int c2), .val (.int c3), .val (.int c4), .val (.int c5), .val (.int c6), .val (.int c7), .val (.int c8)] [(.ref x524), (.ref x515), (.ref x515)]
    obtain ⟨slW562, vvW562, WW562⟩ := W562
    have ne569 : x515 ≠ x524 := Ne.symm (F552.ne_exa XX554 (wd hw 2 rfl))
    have SS564 := Safe.wr WW562 (F552.safe w549.alike (by decide)) w549.chv SS553
    have XX565 := XX554.wr WW562
    have FV566 := FV555.other WW562 (Or.inl ne569)
    have FC567 := FC556.other WW562 (Or.inl ne569)
    have KK568 := KK557.wr WW562 (Or.inr hg536)
    refine blk (pc' := 148) (Ls' := #[.val (.int (Int32.ofNat 5)), .val (.int c0), .val (.int c1), .val (.int c2), .val (.int c3), .val (.int c4), .val (.int c5), .val (.int c6), .val (.int c7), .val (.int c8)]) (st' := [(.int c3), (.int (3 : Int32)), (.ref x524), (.ref x524), (.ref x515), (.ref x515)]) [oDup w560.ok (dc.g 103 rfl), oIconst w560.ok (dc.g 104 rfl), oIload w560.ok (dc.g 105 rfl)] rfl ?_
    refine w560.cst F563 (i := 3) rfl (by simp) (narCh (bc3).1 (bc3).2) (fitsCh (bc3).1 (bc3).2) (Nat.le_trans oz.1 hg536) (dc.g 106 rfl) ?_
    intro T570 h572 w571 W573 F574
    show Go κ _ T570 149 #[.val (.int (Int32.ofNat 5)), .val (.int c0), .val (.int c1), .val (.int c2), .val (.int c3), .val (.int c4), .val (.int c5), .val (.int c6), .val (.int c7), .val (.int c8)] [(.ref x524), (.ref x515), (.ref x515)]
    obtain ⟨slW573, vvW573, WW573⟩ := W573
    have ne580 : x515 ≠ x524 := Ne.symm (F563.ne_exa XX565 (wd hw 2 rfl))
    have SS575 := Safe.wr WW573 (F563.safe w560.alike (by decide)) w560.chv SS564
    have XX576 := XX565.wr WW573
    have FV577 := FV566.other WW573 (Or.inl ne580)
    have FC578 := FC567.other WW573 (Or.inl ne580)
    have KK579 := KK568.wr WW573 (Or.inr hg536)
    refine blk (pc' := 153) (Ls' := #[.val (.int (Int32.ofNat 5)), .val (.int c0), .val (.int c1), .val (.int c2), .val (.int c3), .val (.int c4), .val (.int c5), .val (.int c6), .val (.int c7), .val (.int c8)]) (st' := [(.int c4), (.int (4 : Int32)), (.ref x524), (.ref x524), (.ref x515), (.ref x515)]) [oDup w571.ok (dc.g 107 rfl), oIconst w571.ok (dc.g 108 rfl), oIload w571.ok (dc.g 109 rfl)] rfl ?_
    refine w571.cst F574 (i := 4) rfl (by simp) (narCh (bc4).1 (bc4).2) (fitsCh (bc4).1 (bc4).2) (Nat.le_trans oz.1 hg536) (dc.g 110 rfl) ?_
    intro T581 h583 w582 W584 F585
    show Go κ _ T581 154 #[.val (.int (Int32.ofNat 5)), .val (.int c0), .val (.int c1), .val (.int c2), .val (.int c3), .val (.int c4), .val (.int c5), .val (.int c6), .val (.int c7), .val (.int c8)] [(.ref x524), (.ref x515), (.ref x515)]
    obtain ⟨slW584, vvW584, WW584⟩ := W584
    have ne591 : x515 ≠ x524 := Ne.symm (F574.ne_exa XX576 (wd hw 2 rfl))
    have SS586 := Safe.wr WW584 (F574.safe w571.alike (by decide)) w571.chv SS575
    have XX587 := XX576.wr WW584
    have FV588 := FV577.other WW584 (Or.inl ne591)
    have FC589 := FC578.other WW584 (Or.inl ne591)
    have KK590 := KK579.wr WW584 (Or.inr hg536)
    refine w582.callI rfl (wd hw 52 rfl) (wd hw 53 rfl) (wd hw 54 rfl) (by decide) (a := x515) (argsL := [(.ref x524)]) (Wd := 1) (Ctr.pays (len := 3) (Wd := 1) (c_si1 l Z a0 hw hEL hJS (cs := ([c0, c1, c2, c3, c4] : List Int32)) (w582.old ozs) XX587 FV588 FC589 (Nat.le_trans oz.1 hx535) F585 (by simp) (fun c hc => hL c (by simp at hc ⊢; rcases hc with rfl | rfl | rfl | rfl | rfl <;> simp))) w582 (wd hw 54 rfl) (wd hw 1 rfl) hEL (by decide) (by decide) (sfOne XX587.lt SS586)) pd12 rfl (st := [(.ref x515)]) rfl rfl (Nat.le_of_eq rfl) (dc.g 111 rfl) (by decide) (by decide) ?_
    intro vm592 T593 h594 v595 w596 C597 Q598
    obtain ⟨rfl, K599, FS600⟩ := Q598
    show Go κ _ T593 157 #[.val (.int (Int32.ofNat 5)), .val (.int c0), .val (.int c1), .val (.int c2), .val (.int c3), .val (.int c4), .val (.int c5), .val (.int c6), .val (.int c7), .val (.int c8)] [(.ref x515)]
    have K601 := KK590.trans K599 (allS (Or.inr hx535) all0)
    exact w596.retA rfl rfl rfl rfl (dc.g 112 rfl) (by decide) (by decide) (fun S hS => ⟨K601, _, rfl, FS600⟩)
  · show Go κ _ T 0 #[.val (.int (Int32.ofNat 6)), .val (.int c0), .val (.int c1), .val (.int c2), .val (.int c3), .val (.int c4), .val (.int c5), .val (.int c6), .val (.int c7), .val (.int c8)] []
    refine blk (pc' := 1) (Ls' := #[.val (.int (Int32.ofNat 6)), .val (.int c0), .val (.int c1), .val (.int c2), .val (.int c3), .val (.int c4), .val (.int c5), .val (.int c6), .val (.int c7), .val (.int c8)]) (st' := [(.int (Int32.ofNat 6))]) [oIloadN w.ok (dc.g 0 rfl)] rfl ?_
    refine zNe (pc' := 15) w.ok (dc.g 1 rfl) (by decide) (by decide) (fun hc602 => ?_) (fun hc602 => absurd hc602 (by decide))
    show Go κ _ T 15 #[.val (.int (Int32.ofNat 6)), .val (.int c0), .val (.int c1), .val (.int c2), .val (.int c3), .val (.int c4), .val (.int c5), .val (.int c6), .val (.int c7), .val (.int c8)] []
    refine blk (pc' := 17) (Ls' := #[.val (.int (Int32.ofNat 6)), .val (.int c0), .val (.int c1), .val (.int c2), .val (.int c3), .val (.int c4), .val (.int c5), .val (.int c6), .val (.int c7), .val (.int c8)]) (st' := [(.int (1 : Int32)), (.int (Int32.ofNat 6))]) [oIloadN w.ok (dc.g 8 rfl), oIconst w.ok (dc.g 9 rfl)] rfl ?_
    refine cNe (pc' := 35) w.ok (dc.g 10 rfl) (by decide) (by decide) (fun hc603 => ?_) (fun hc603 => absurd hc603 (by decide))
    show Go κ _ T 35 #[.val (.int (Int32.ofNat 6)), .val (.int c0), .val (.int c1), .val (.int c2), .val (.int c3), .val (.int c4), .val (.int c5), .val (.int c6), .val (.int c7), .val (.int c8)] []
    refine blk (pc' := 37) (Ls' := #[.val (.int (Int32.ofNat 6)), .val (.int c0), .val (.int c1), .val (.int c2), .val (.int c3), .val (.int c4), .val (.int c5), .val (.int c6), .val (.int c7), .val (.int c8)]) (st' := [(.int (2 : Int32)), (.int (Int32.ofNat 6))]) [oIloadN w.ok (dc.g 21 rfl), oIconst w.ok (dc.g 22 rfl)] rfl ?_
    refine cNe (pc' := 59) w.ok (dc.g 23 rfl) (by decide) (by decide) (fun hc604 => ?_) (fun hc604 => absurd hc604 (by decide))
    show Go κ _ T 59 #[.val (.int (Int32.ofNat 6)), .val (.int c0), .val (.int c1), .val (.int c2), .val (.int c3), .val (.int c4), .val (.int c5), .val (.int c6), .val (.int c7), .val (.int c8)] []
    refine blk (pc' := 61) (Ls' := #[.val (.int (Int32.ofNat 6)), .val (.int c0), .val (.int c1), .val (.int c2), .val (.int c3), .val (.int c4), .val (.int c5), .val (.int c6), .val (.int c7), .val (.int c8)]) (st' := [(.int (3 : Int32)), (.int (Int32.ofNat 6))]) [oIloadN w.ok (dc.g 38 rfl), oIconst w.ok (dc.g 39 rfl)] rfl ?_
    refine cNe (pc' := 87) w.ok (dc.g 40 rfl) (by decide) (by decide) (fun hc605 => ?_) (fun hc605 => absurd hc605 (by decide))
    show Go κ _ T 87 #[.val (.int (Int32.ofNat 6)), .val (.int c0), .val (.int c1), .val (.int c2), .val (.int c3), .val (.int c4), .val (.int c5), .val (.int c6), .val (.int c7), .val (.int c8)] []
    refine blk (pc' := 89) (Ls' := #[.val (.int (Int32.ofNat 6)), .val (.int c0), .val (.int c1), .val (.int c2), .val (.int c3), .val (.int c4), .val (.int c5), .val (.int c6), .val (.int c7), .val (.int c8)]) (st' := [(.int (4 : Int32)), (.int (Int32.ofNat 6))]) [oIloadN w.ok (dc.g 59 rfl), oIconst w.ok (dc.g 60 rfl)] rfl ?_
    refine cNe (pc' := 120) w.ok (dc.g 61 rfl) (by decide) (by decide) (fun hc606 => ?_) (fun hc606 => absurd hc606 (by decide))
    show Go κ _ T 120 #[.val (.int (Int32.ofNat 6)), .val (.int c0), .val (.int c1), .val (.int c2), .val (.int c3), .val (.int c4), .val (.int c5), .val (.int c6), .val (.int c7), .val (.int c8)] []
    refine blk (pc' := 122) (Ls' := #[.val (.int (Int32.ofNat 6)), .val (.int c0), .val (.int c1), .val (.int c2), .val (.int c3), .val (.int c4), .val (.int c5), .val (.int c6), .val (.int c7), .val (.int c8)]) (st' := [(.int (5 : Int32)), (.int (Int32.ofNat 6))]) [oIloadN w.ok (dc.g 84 rfl), oIconst w.ok (dc.g 85 rfl)] rfl ?_
    refine cNe (pc' := 158) w.ok (dc.g 86 rfl) (by decide) (by decide) (fun hc607 => ?_) (fun hc607 => absurd hc607 (by decide))
    show Go κ _ T 158 #[.val (.int (Int32.ofNat 6)), .val (.int c0), .val (.int c1), .val (.int c2), .val (.int c3), .val (.int c4), .val (.int c5), .val (.int c6), .val (.int c7), .val (.int c8)] []
    refine blk (pc' := 161) (Ls' := #[.val (.int (Int32.ofNat 6)), .val (.int c0), .val (.int c1), .val (.int c2), .val (.int c3), .val (.int c4), .val (.int c5), .val (.int c6), .val (.int c7), .val (.int c8)]) (st' := [(.int (6 : Int32)), (.int (Int32.ofNat 6))]) [oIloadN w.ok (dc.g 113 rfl), oBipush w.ok (dc.g 114 rfl)] rfl ?_
    refine cNe (pc' := 203) w.ok (dc.g 115 rfl) (by decide) (by decide) (fun hc608 => absurd (by decide) hc608) (fun hc608 => ?_)
    show Go κ _ T 164 #[.val (.int (Int32.ofNat 6)), .val (.int c0), .val (.int c1), .val (.int c2), .val (.int c3), .val (.int c4), .val (.int c5), .val (.int c6), .val (.int c7), .val (.int c8)] []
    refine w.new (wd hw 50 rfl) (wd hw 2 rfl) (wd hw 1 rfl) (dc.g 116 rfl) (by decide) (by decide) ?_
    intro T609 h611 x612 w610 g613 E614 X615 D616 S617
    show Go κ _ T609 167 #[.val (.int (Int32.ofNat 6)), .val (.int c0), .val (.int c1), .val (.int c2), .val (.int c3), .val (.int c4), .val (.int c5), .val (.int c6), .val (.int c7), .val (.int c8)] [(.ref x612)]
    refine blk (pc' := 170) (Ls' := #[.val (.int (Int32.ofNat 6)), .val (.int c0), .val (.int c1), .val (.int c2), .val (.int c3), .val (.int c4), .val (.int c5), .val (.int c6), .val (.int c7), .val (.int c8)]) (st' := [(.int (6 : Int32)), (.ref x612), (.ref x612)]) [oDup w610.ok (dc.g 117 rfl), oBipush w610.ok (dc.g 118 rfl)] rfl ?_
    refine w610.newarr (aty := .char) (wd hw 51 rfl) (dc.g 119 rfl) (c := 6) (by decide) (by decide) (cap := 6) (by first | decide | omega) (by first | decide | omega) (by decide) (by decide) rfl rfl ?_
    intro T618 h620 x621 w619 g622 E623 F624 S625
    show Go κ _ T618 172 #[.val (.int (Int32.ofNat 6)), .val (.int c0), .val (.int c1), .val (.int c2), .val (.int c3), .val (.int c4), .val (.int c5), .val (.int c6), .val (.int c7), .val (.int c8)] [(.ref x621), (.ref x612), (.ref x612)]
    have SS626 := Safe.ext E623 w610.chv S617
    have XX627 := X615.ext E623
    have FV628 := (D616 (Or.inr (wd hw 4 rfl)) (ty := .array .byte) (by decide)).ext E623
    have FC629 := (D616 (Or.inr (wd hw 5 rfl)) (ty := .byte) (by decide)).ext E623
    have KK630 := ((Keep.refl h []).ext E614).ext E623
    have hx632 : h.size ≤ x612 := by rw [g613]; exact Nat.le_refl _
    have hg633 : h.size ≤ x621 := by rw [g622]; exact E614.1
    refine blk (pc' := 175) (Ls' := #[.val (.int (Int32.ofNat 6)), .val (.int c0), .val (.int c1), .val (.int c2), .val (.int c3), .val (.int c4), .val (.int c5), .val (.int c6), .val (.int c7), .val (.int c8)]) (st' := [(.int c0), (.int (0 : Int32)), (.ref x621), (.ref x621), (.ref x612), (.ref x612)]) [oDup w619.ok (dc.g 120 rfl), oIconst w619.ok (dc.g 121 rfl), oIloadN w619.ok (dc.g 122 rfl)] rfl ?_
    refine w619.cst F624 (i := 0) rfl (by simp) (narCh (bc0).1 (bc0).2) (fitsCh (bc0).1 (bc0).2) (Nat.le_trans oz.1 hg633) (dc.g 123 rfl) ?_
    intro T634 h636 w635 W637 F638
    show Go κ _ T634 176 #[.val (.int (Int32.ofNat 6)), .val (.int c0), .val (.int c1), .val (.int c2), .val (.int c3), .val (.int c4), .val (.int c5), .val (.int c6), .val (.int c7), .val (.int c8)] [(.ref x621), (.ref x612), (.ref x612)]
    obtain ⟨slW637, vvW637, WW637⟩ := W637
    have ne644 : x612 ≠ x621 := Ne.symm (F624.ne_exa XX627 (wd hw 2 rfl))
    have SS639 := Safe.wr WW637 (F624.safe w619.alike (by decide)) w619.chv SS626
    have XX640 := XX627.wr WW637
    have FV641 := FV628.other WW637 (Or.inl ne644)
    have FC642 := FC629.other WW637 (Or.inl ne644)
    have KK643 := KK630.wr WW637 (Or.inr hg633)
    refine blk (pc' := 179) (Ls' := #[.val (.int (Int32.ofNat 6)), .val (.int c0), .val (.int c1), .val (.int c2), .val (.int c3), .val (.int c4), .val (.int c5), .val (.int c6), .val (.int c7), .val (.int c8)]) (st' := [(.int c1), (.int (1 : Int32)), (.ref x621), (.ref x621), (.ref x612), (.ref x612)]) [oDup w635.ok (dc.g 124 rfl), oIconst w635.ok (dc.g 125 rfl), oIloadN w635.ok (dc.g 126 rfl)] rfl ?_
    refine w635.cst F638 (i := 1) rfl (by simp) (narCh (bc1).1 (bc1).2) (fitsCh (bc1).1 (bc1).2) (Nat.le_trans oz.1 hg633) (dc.g 127 rfl) ?_
    intro T645 h647 w646 W648 F649
    show Go κ _ T645 180 #[.val (.int (Int32.ofNat 6)), .val (.int c0), .val (.int c1), .val (.int c2), .val (.int c3), .val (.int c4), .val (.int c5), .val (.int c6), .val (.int c7), .val (.int c8)] [(.ref x621), (.ref x612), (.ref x612)]
    obtain ⟨slW648, vvW648, WW648⟩ := W648
    have ne655 : x612 ≠ x621 := Ne.symm (F638.ne_exa XX640 (wd hw 2 rfl))
    have SS650 := Safe.wr WW648 (F638.safe w635.alike (by decide)) w635.chv SS639
    have XX651 := XX640.wr WW648
    have FV652 := FV641.other WW648 (Or.inl ne655)
    have FC653 := FC642.other WW648 (Or.inl ne655)
    have KK654 := KK643.wr WW648 (Or.inr hg633)
    refine blk (pc' := 183) (Ls' := #[.val (.int (Int32.ofNat 6)), .val (.int c0), .val (.int c1), .val (.int c2), .val (.int c3), .val (.int c4), .val (.int c5), .val (.int c6), .val (.int c7), .val (.int c8)]) (st' := [(.int c2), (.int (2 : Int32)), (.ref x621), (.ref x621), (.ref x612), (.ref x612)]) [oDup w646.ok (dc.g 128 rfl), oIconst w646.ok (dc.g 129 rfl), oIloadN w646.ok (dc.g 130 rfl)] rfl ?_
    refine w646.cst F649 (i := 2) rfl (by simp) (narCh (bc2).1 (bc2).2) (fitsCh (bc2).1 (bc2).2) (Nat.le_trans oz.1 hg633) (dc.g 131 rfl) ?_
    intro T656 h658 w657 W659 F660
    show Go κ _ T656 184 #[.val (.int (Int32.ofNat 6)), .val (.int c0), .val (.int c1), .val (.int c2), .val (.int c3), .val (.int c4), .val (.int c5), .val (.int c6), .val (.int c7), .val (.int c8)] [(.ref x621), (.ref x612), (.ref x612)]
    obtain ⟨slW659, vvW659, WW659⟩ := W659
    have ne666 : x612 ≠ x621 := Ne.symm (F649.ne_exa XX651 (wd hw 2 rfl))
    have SS661 := Safe.wr WW659 (F649.safe w646.alike (by decide)) w646.chv SS650
    have XX662 := XX651.wr WW659
    have FV663 := FV652.other WW659 (Or.inl ne666)
    have FC664 := FC653.other WW659 (Or.inl ne666)
    have KK665 := KK654.wr WW659 (Or.inr hg633)
    refine blk (pc' := 188) (Ls' := #[.val (.int (Int32.ofNat 6)), .val (.int c0), .val (.int c1), .val (.int c2), .val (.int c3), .val (.int c4), .val (.int c5), .val (.int c6), .val (.int c7), .val (.int c8)]) (st' := [(.int c3), (.int (3 : Int32)), (.ref x621), (.ref x621), (.ref x612), (.ref x612)]) [oDup w657.ok (dc.g 132 rfl), oIconst w657.ok (dc.g 133 rfl), oIload w657.ok (dc.g 134 rfl)] rfl ?_
    refine w657.cst F660 (i := 3) rfl (by simp) (narCh (bc3).1 (bc3).2) (fitsCh (bc3).1 (bc3).2) (Nat.le_trans oz.1 hg633) (dc.g 135 rfl) ?_
    intro T667 h669 w668 W670 F671
    show Go κ _ T667 189 #[.val (.int (Int32.ofNat 6)), .val (.int c0), .val (.int c1), .val (.int c2), .val (.int c3), .val (.int c4), .val (.int c5), .val (.int c6), .val (.int c7), .val (.int c8)] [(.ref x621), (.ref x612), (.ref x612)]
    obtain ⟨slW670, vvW670, WW670⟩ := W670
    have ne677 : x612 ≠ x621 := Ne.symm (F660.ne_exa XX662 (wd hw 2 rfl))
    have SS672 := Safe.wr WW670 (F660.safe w657.alike (by decide)) w657.chv SS661
    have XX673 := XX662.wr WW670
    have FV674 := FV663.other WW670 (Or.inl ne677)
    have FC675 := FC664.other WW670 (Or.inl ne677)
    have KK676 := KK665.wr WW670 (Or.inr hg633)
    refine blk (pc' := 193) (Ls' := #[.val (.int (Int32.ofNat 6)), .val (.int c0), .val (.int c1), .val (.int c2), .val (.int c3), .val (.int c4), .val (.int c5), .val (.int c6), .val (.int c7), .val (.int c8)]) (st' := [(.int c4), (.int (4 : Int32)), (.ref x621), (.ref x621), (.ref x612), (.ref x612)]) [oDup w668.ok (dc.g 136 rfl), oIconst w668.ok (dc.g 137 rfl), oIload w668.ok (dc.g 138 rfl)] rfl ?_
    refine w668.cst F671 (i := 4) rfl (by simp) (narCh (bc4).1 (bc4).2) (fitsCh (bc4).1 (bc4).2) (Nat.le_trans oz.1 hg633) (dc.g 139 rfl) ?_
    intro T678 h680 w679 W681 F682
    show Go κ _ T678 194 #[.val (.int (Int32.ofNat 6)), .val (.int c0), .val (.int c1), .val (.int c2), .val (.int c3), .val (.int c4), .val (.int c5), .val (.int c6), .val (.int c7), .val (.int c8)] [(.ref x621), (.ref x612), (.ref x612)]
    obtain ⟨slW681, vvW681, WW681⟩ := W681
    have ne688 : x612 ≠ x621 := Ne.symm (F671.ne_exa XX673 (wd hw 2 rfl))
    have SS683 := Safe.wr WW681 (F671.safe w668.alike (by decide)) w668.chv SS672
    have XX684 := XX673.wr WW681
    have FV685 := FV674.other WW681 (Or.inl ne688)
    have FC686 := FC675.other WW681 (Or.inl ne688)
    have KK687 := KK676.wr WW681 (Or.inr hg633)
    refine blk (pc' := 198) (Ls' := #[.val (.int (Int32.ofNat 6)), .val (.int c0), .val (.int c1), .val (.int c2), .val (.int c3), .val (.int c4), .val (.int c5), .val (.int c6), .val (.int c7), .val (.int c8)]) (st' := [(.int c5), (.int (5 : Int32)), (.ref x621), (.ref x621), (.ref x612), (.ref x612)]) [oDup w679.ok (dc.g 140 rfl), oIconst w679.ok (dc.g 141 rfl), oIload w679.ok (dc.g 142 rfl)] rfl ?_
    refine w679.cst F682 (i := 5) rfl (by simp) (narCh (bc5).1 (bc5).2) (fitsCh (bc5).1 (bc5).2) (Nat.le_trans oz.1 hg633) (dc.g 143 rfl) ?_
    intro T689 h691 w690 W692 F693
    show Go κ _ T689 199 #[.val (.int (Int32.ofNat 6)), .val (.int c0), .val (.int c1), .val (.int c2), .val (.int c3), .val (.int c4), .val (.int c5), .val (.int c6), .val (.int c7), .val (.int c8)] [(.ref x621), (.ref x612), (.ref x612)]
    obtain ⟨slW692, vvW692, WW692⟩ := W692
    have ne699 : x612 ≠ x621 := Ne.symm (F682.ne_exa XX684 (wd hw 2 rfl))
    have SS694 := Safe.wr WW692 (F682.safe w679.alike (by decide)) w679.chv SS683
    have XX695 := XX684.wr WW692
    have FV696 := FV685.other WW692 (Or.inl ne699)
    have FC697 := FC686.other WW692 (Or.inl ne699)
    have KK698 := KK687.wr WW692 (Or.inr hg633)
    refine w690.callI rfl (wd hw 52 rfl) (wd hw 53 rfl) (wd hw 54 rfl) (by decide) (a := x612) (argsL := [(.ref x621)]) (Wd := 1) (Ctr.pays (len := 3) (Wd := 1) (c_si1 l Z a0 hw hEL hJS (cs := ([c0, c1, c2, c3, c4, c5] : List Int32)) (w690.old ozs) XX695 FV696 FC697 (Nat.le_trans oz.1 hx632) F693 (by simp) (fun c hc => hL c (by simp at hc ⊢; rcases hc with rfl | rfl | rfl | rfl | rfl | rfl <;> simp))) w690 (wd hw 54 rfl) (wd hw 1 rfl) hEL (by decide) (by decide) (sfOne XX695.lt SS694)) pd12 rfl (st := [(.ref x612)]) rfl rfl (Nat.le_of_eq rfl) (dc.g 144 rfl) (by decide) (by decide) ?_
    intro vm700 T701 h702 v703 w704 C705 Q706
    obtain ⟨rfl, K707, FS708⟩ := Q706
    show Go κ _ T701 202 #[.val (.int (Int32.ofNat 6)), .val (.int c0), .val (.int c1), .val (.int c2), .val (.int c3), .val (.int c4), .val (.int c5), .val (.int c6), .val (.int c7), .val (.int c8)] [(.ref x612)]
    have K709 := KK698.trans K707 (allS (Or.inr hx632) all0)
    exact w704.retA rfl rfl rfl rfl (dc.g 145 rfl) (by decide) (by decide) (fun S hS => ⟨K709, _, rfl, FS708⟩)
  · show Go κ _ T 0 #[.val (.int (Int32.ofNat 7)), .val (.int c0), .val (.int c1), .val (.int c2), .val (.int c3), .val (.int c4), .val (.int c5), .val (.int c6), .val (.int c7), .val (.int c8)] []
    refine blk (pc' := 1) (Ls' := #[.val (.int (Int32.ofNat 7)), .val (.int c0), .val (.int c1), .val (.int c2), .val (.int c3), .val (.int c4), .val (.int c5), .val (.int c6), .val (.int c7), .val (.int c8)]) (st' := [(.int (Int32.ofNat 7))]) [oIloadN w.ok (dc.g 0 rfl)] rfl ?_
    refine zNe (pc' := 15) w.ok (dc.g 1 rfl) (by decide) (by decide) (fun hc710 => ?_) (fun hc710 => absurd hc710 (by decide))
    show Go κ _ T 15 #[.val (.int (Int32.ofNat 7)), .val (.int c0), .val (.int c1), .val (.int c2), .val (.int c3), .val (.int c4), .val (.int c5), .val (.int c6), .val (.int c7), .val (.int c8)] []
    refine blk (pc' := 17) (Ls' := #[.val (.int (Int32.ofNat 7)), .val (.int c0), .val (.int c1), .val (.int c2), .val (.int c3), .val (.int c4), .val (.int c5), .val (.int c6), .val (.int c7), .val (.int c8)]) (st' := [(.int (1 : Int32)), (.int (Int32.ofNat 7))]) [oIloadN w.ok (dc.g 8 rfl), oIconst w.ok (dc.g 9 rfl)] rfl ?_
    refine cNe (pc' := 35) w.ok (dc.g 10 rfl) (by decide) (by decide) (fun hc711 => ?_) (fun hc711 => absurd hc711 (by decide))
    show Go κ _ T 35 #[.val (.int (Int32.ofNat 7)), .val (.int c0), .val (.int c1), .val (.int c2), .val (.int c3), .val (.int c4), .val (.int c5), .val (.int c6), .val (.int c7), .val (.int c8)] []
    refine blk (pc' := 37) (Ls' := #[.val (.int (Int32.ofNat 7)), .val (.int c0), .val (.int c1), .val (.int c2), .val (.int c3), .val (.int c4), .val (.int c5), .val (.int c6), .val (.int c7), .val (.int c8)]) (st' := [(.int (2 : Int32)), (.int (Int32.ofNat 7))]) [oIloadN w.ok (dc.g 21 rfl), oIconst w.ok (dc.g 22 rfl)] rfl ?_
    refine cNe (pc' := 59) w.ok (dc.g 23 rfl) (by decide) (by decide) (fun hc712 => ?_) (fun hc712 => absurd hc712 (by decide))
    show Go κ _ T 59 #[.val (.int (Int32.ofNat 7)), .val (.int c0), .val (.int c1), .val (.int c2), .val (.int c3), .val (.int c4), .val (.int c5), .val (.int c6), .val (.int c7), .val (.int c8)] []
    refine blk (pc' := 61) (Ls' := #[.val (.int (Int32.ofNat 7)), .val (.int c0), .val (.int c1), .val (.int c2), .val (.int c3), .val (.int c4), .val (.int c5), .val (.int c6), .val (.int c7), .val (.int c8)]) (st' := [(.int (3 : Int32)), (.int (Int32.ofNat 7))]) [oIloadN w.ok (dc.g 38 rfl), oIconst w.ok (dc.g 39 rfl)] rfl ?_
    refine cNe (pc' := 87) w.ok (dc.g 40 rfl) (by decide) (by decide) (fun hc713 => ?_) (fun hc713 => absurd hc713 (by decide))
    show Go κ _ T 87 #[.val (.int (Int32.ofNat 7)), .val (.int c0), .val (.int c1), .val (.int c2), .val (.int c3), .val (.int c4), .val (.int c5), .val (.int c6), .val (.int c7), .val (.int c8)] []
    refine blk (pc' := 89) (Ls' := #[.val (.int (Int32.ofNat 7)), .val (.int c0), .val (.int c1), .val (.int c2), .val (.int c3), .val (.int c4), .val (.int c5), .val (.int c6), .val (.int c7), .val (.int c8)]) (st' := [(.int (4 : Int32)), (.int (Int32.ofNat 7))]) [oIloadN w.ok (dc.g 59 rfl), oIconst w.ok (dc.g 60 rfl)] rfl ?_
    refine cNe (pc' := 120) w.ok (dc.g 61 rfl) (by decide) (by decide) (fun hc714 => ?_) (fun hc714 => absurd hc714 (by decide))
    show Go κ _ T 120 #[.val (.int (Int32.ofNat 7)), .val (.int c0), .val (.int c1), .val (.int c2), .val (.int c3), .val (.int c4), .val (.int c5), .val (.int c6), .val (.int c7), .val (.int c8)] []
    refine blk (pc' := 122) (Ls' := #[.val (.int (Int32.ofNat 7)), .val (.int c0), .val (.int c1), .val (.int c2), .val (.int c3), .val (.int c4), .val (.int c5), .val (.int c6), .val (.int c7), .val (.int c8)]) (st' := [(.int (5 : Int32)), (.int (Int32.ofNat 7))]) [oIloadN w.ok (dc.g 84 rfl), oIconst w.ok (dc.g 85 rfl)] rfl ?_
    refine cNe (pc' := 158) w.ok (dc.g 86 rfl) (by decide) (by decide) (fun hc715 => ?_) (fun hc715 => absurd hc715 (by decide))
    show Go κ _ T 158 #[.val (.int (Int32.ofNat 7)), .val (.int c0), .val (.int c1), .val (.int c2), .val (.int c3), .val (.int c4), .val (.int c5), .val (.int c6), .val (.int c7), .val (.int c8)] []
    refine blk (pc' := 161) (Ls' := #[.val (.int (Int32.ofNat 7)), .val (.int c0), .val (.int c1), .val (.int c2), .val (.int c3), .val (.int c4), .val (.int c5), .val (.int c6), .val (.int c7), .val (.int c8)]) (st' := [(.int (6 : Int32)), (.int (Int32.ofNat 7))]) [oIloadN w.ok (dc.g 113 rfl), oBipush w.ok (dc.g 114 rfl)] rfl ?_
    refine cNe (pc' := 203) w.ok (dc.g 115 rfl) (by decide) (by decide) (fun hc716 => ?_) (fun hc716 => absurd hc716 (by decide))
    show Go κ _ T 203 #[.val (.int (Int32.ofNat 7)), .val (.int c0), .val (.int c1), .val (.int c2), .val (.int c3), .val (.int c4), .val (.int c5), .val (.int c6), .val (.int c7), .val (.int c8)] []
    refine blk (pc' := 206) (Ls' := #[.val (.int (Int32.ofNat 7)), .val (.int c0), .val (.int c1), .val (.int c2), .val (.int c3), .val (.int c4), .val (.int c5), .val (.int c6), .val (.int c7), .val (.int c8)]) (st' := [(.int (7 : Int32)), (.int (Int32.ofNat 7))]) [oIloadN w.ok (dc.g 146 rfl), oBipush w.ok (dc.g 147 rfl)] rfl ?_
    refine cNe (pc' := 254) w.ok (dc.g 148 rfl) (by decide) (by decide) (fun hc717 => absurd (by decide) hc717) (fun hc717 => ?_)
    show Go κ _ T 209 #[.val (.int (Int32.ofNat 7)), .val (.int c0), .val (.int c1), .val (.int c2), .val (.int c3), .val (.int c4), .val (.int c5), .val (.int c6), .val (.int c7), .val (.int c8)] []
    refine w.new (wd hw 50 rfl) (wd hw 2 rfl) (wd hw 1 rfl) (dc.g 149 rfl) (by decide) (by decide) ?_
    intro T718 h720 x721 w719 g722 E723 X724 D725 S726
    show Go κ _ T718 212 #[.val (.int (Int32.ofNat 7)), .val (.int c0), .val (.int c1), .val (.int c2), .val (.int c3), .val (.int c4), .val (.int c5), .val (.int c6), .val (.int c7), .val (.int c8)] [(.ref x721)]
    refine blk (pc' := 215) (Ls' := #[.val (.int (Int32.ofNat 7)), .val (.int c0), .val (.int c1), .val (.int c2), .val (.int c3), .val (.int c4), .val (.int c5), .val (.int c6), .val (.int c7), .val (.int c8)]) (st' := [(.int (7 : Int32)), (.ref x721), (.ref x721)]) [oDup w719.ok (dc.g 150 rfl), oBipush w719.ok (dc.g 151 rfl)] rfl ?_
    refine w719.newarr (aty := .char) (wd hw 51 rfl) (dc.g 152 rfl) (c := 7) (by decide) (by decide) (cap := 7) (by first | decide | omega) (by first | decide | omega) (by decide) (by decide) rfl rfl ?_
    intro T727 h729 x730 w728 g731 E732 F733 S734
    show Go κ _ T727 217 #[.val (.int (Int32.ofNat 7)), .val (.int c0), .val (.int c1), .val (.int c2), .val (.int c3), .val (.int c4), .val (.int c5), .val (.int c6), .val (.int c7), .val (.int c8)] [(.ref x730), (.ref x721), (.ref x721)]
    have SS735 := Safe.ext E732 w719.chv S726
    have XX736 := X724.ext E732
    have FV737 := (D725 (Or.inr (wd hw 4 rfl)) (ty := .array .byte) (by decide)).ext E732
    have FC738 := (D725 (Or.inr (wd hw 5 rfl)) (ty := .byte) (by decide)).ext E732
    have KK739 := ((Keep.refl h []).ext E723).ext E732
    have hx741 : h.size ≤ x721 := by rw [g722]; exact Nat.le_refl _
    have hg742 : h.size ≤ x730 := by rw [g731]; exact E723.1
    refine blk (pc' := 220) (Ls' := #[.val (.int (Int32.ofNat 7)), .val (.int c0), .val (.int c1), .val (.int c2), .val (.int c3), .val (.int c4), .val (.int c5), .val (.int c6), .val (.int c7), .val (.int c8)]) (st' := [(.int c0), (.int (0 : Int32)), (.ref x730), (.ref x730), (.ref x721), (.ref x721)]) [oDup w728.ok (dc.g 153 rfl), oIconst w728.ok (dc.g 154 rfl), oIloadN w728.ok (dc.g 155 rfl)] rfl ?_
    refine w728.cst F733 (i := 0) rfl (by simp) (narCh (bc0).1 (bc0).2) (fitsCh (bc0).1 (bc0).2) (Nat.le_trans oz.1 hg742) (dc.g 156 rfl) ?_
    intro T743 h745 w744 W746 F747
    show Go κ _ T743 221 #[.val (.int (Int32.ofNat 7)), .val (.int c0), .val (.int c1), .val (.int c2), .val (.int c3), .val (.int c4), .val (.int c5), .val (.int c6), .val (.int c7), .val (.int c8)] [(.ref x730), (.ref x721), (.ref x721)]
    obtain ⟨slW746, vvW746, WW746⟩ := W746
    have ne753 : x721 ≠ x730 := Ne.symm (F733.ne_exa XX736 (wd hw 2 rfl))
    have SS748 := Safe.wr WW746 (F733.safe w728.alike (by decide)) w728.chv SS735
    have XX749 := XX736.wr WW746
    have FV750 := FV737.other WW746 (Or.inl ne753)
    have FC751 := FC738.other WW746 (Or.inl ne753)
    have KK752 := KK739.wr WW746 (Or.inr hg742)
    refine blk (pc' := 224) (Ls' := #[.val (.int (Int32.ofNat 7)), .val (.int c0), .val (.int c1), .val (.int c2), .val (.int c3), .val (.int c4), .val (.int c5), .val (.int c6), .val (.int c7), .val (.int c8)]) (st' := [(.int c1), (.int (1 : Int32)), (.ref x730), (.ref x730), (.ref x721), (.ref x721)]) [oDup w744.ok (dc.g 157 rfl), oIconst w744.ok (dc.g 158 rfl), oIloadN w744.ok (dc.g 159 rfl)] rfl ?_
    refine w744.cst F747 (i := 1) rfl (by simp) (narCh (bc1).1 (bc1).2) (fitsCh (bc1).1 (bc1).2) (Nat.le_trans oz.1 hg742) (dc.g 160 rfl) ?_
    intro T754 h756 w755 W757 F758
    show Go κ _ T754 225 #[.val (.int (Int32.ofNat 7)), .val (.int c0), .val (.int c1), .val (.int c2), .val (.int c3), .val (.int c4), .val (.int c5), .val (.int c6), .val (.int c7), .val (.int c8)] [(.ref x730), (.ref x721), (.ref x721)]
    obtain ⟨slW757, vvW757, WW757⟩ := W757
    have ne764 : x721 ≠ x730 := Ne.symm (F747.ne_exa XX749 (wd hw 2 rfl))
    have SS759 := Safe.wr WW757 (F747.safe w744.alike (by decide)) w744.chv SS748
    have XX760 := XX749.wr WW757
    have FV761 := FV750.other WW757 (Or.inl ne764)
    have FC762 := FC751.other WW757 (Or.inl ne764)
    have KK763 := KK752.wr WW757 (Or.inr hg742)
    refine blk (pc' := 228) (Ls' := #[.val (.int (Int32.ofNat 7)), .val (.int c0), .val (.int c1), .val (.int c2), .val (.int c3), .val (.int c4), .val (.int c5), .val (.int c6), .val (.int c7), .val (.int c8)]) (st' := [(.int c2), (.int (2 : Int32)), (.ref x730), (.ref x730), (.ref x721), (.ref x721)]) [oDup w755.ok (dc.g 161 rfl), oIconst w755.ok (dc.g 162 rfl), oIloadN w755.ok (dc.g 163 rfl)] rfl ?_
    refine w755.cst F758 (i := 2) rfl (by simp) (narCh (bc2).1 (bc2).2) (fitsCh (bc2).1 (bc2).2) (Nat.le_trans oz.1 hg742) (dc.g 164 rfl) ?_
    intro T765 h767 w766 W768 F769
    show Go κ _ T765 229 #[.val (.int (Int32.ofNat 7)), .val (.int c0), .val (.int c1), .val (.int c2), .val (.int c3), .val (.int c4), .val (.int c5), .val (.int c6), .val (.int c7), .val (.int c8)] [(.ref x730), (.ref x721), (.ref x721)]
    obtain ⟨slW768, vvW768, WW768⟩ := W768
    have ne775 : x721 ≠ x730 := Ne.symm (F758.ne_exa XX760 (wd hw 2 rfl))
    have SS770 := Safe.wr WW768 (F758.safe w755.alike (by decide)) w755.chv SS759
    have XX771 := XX760.wr WW768
    have FV772 := FV761.other WW768 (Or.inl ne775)
    have FC773 := FC762.other WW768 (Or.inl ne775)
    have KK774 := KK763.wr WW768 (Or.inr hg742)
    refine blk (pc' := 233) (Ls' := #[.val (.int (Int32.ofNat 7)), .val (.int c0), .val (.int c1), .val (.int c2), .val (.int c3), .val (.int c4), .val (.int c5), .val (.int c6), .val (.int c7), .val (.int c8)]) (st' := [(.int c3), (.int (3 : Int32)), (.ref x730), (.ref x730), (.ref x721), (.ref x721)]) [oDup w766.ok (dc.g 165 rfl), oIconst w766.ok (dc.g 166 rfl), oIload w766.ok (dc.g 167 rfl)] rfl ?_
    refine w766.cst F769 (i := 3) rfl (by simp) (narCh (bc3).1 (bc3).2) (fitsCh (bc3).1 (bc3).2) (Nat.le_trans oz.1 hg742) (dc.g 168 rfl) ?_
    intro T776 h778 w777 W779 F780
    show Go κ _ T776 234 #[.val (.int (Int32.ofNat 7)), .val (.int c0), .val (.int c1), .val (.int c2), .val (.int c3), .val (.int c4), .val (.int c5), .val (.int c6), .val (.int c7), .val (.int c8)] [(.ref x730), (.ref x721), (.ref x721)]
    obtain ⟨slW779, vvW779, WW779⟩ := W779
    have ne786 : x721 ≠ x730 := Ne.symm (F769.ne_exa XX771 (wd hw 2 rfl))
    have SS781 := Safe.wr WW779 (F769.safe w766.alike (by decide)) w766.chv SS770
    have XX782 := XX771.wr WW779
    have FV783 := FV772.other WW779 (Or.inl ne786)
    have FC784 := FC773.other WW779 (Or.inl ne786)
    have KK785 := KK774.wr WW779 (Or.inr hg742)
    refine blk (pc' := 238) (Ls' := #[.val (.int (Int32.ofNat 7)), .val (.int c0), .val (.int c1), .val (.int c2), .val (.int c3), .val (.int c4), .val (.int c5), .val (.int c6), .val (.int c7), .val (.int c8)]) (st' := [(.int c4), (.int (4 : Int32)), (.ref x730), (.ref x730), (.ref x721), (.ref x721)]) [oDup w777.ok (dc.g 169 rfl), oIconst w777.ok (dc.g 170 rfl), oIload w777.ok (dc.g 171 rfl)] rfl ?_
    refine w777.cst F780 (i := 4) rfl (by simp) (narCh (bc4).1 (bc4).2) (fitsCh (bc4).1 (bc4).2) (Nat.le_trans oz.1 hg742) (dc.g 172 rfl) ?_
    intro T787 h789 w788 W790 F791
    show Go κ _ T787 239 #[.val (.int (Int32.ofNat 7)), .val (.int c0), .val (.int c1), .val (.int c2), .val (.int c3), .val (.int c4), .val (.int c5), .val (.int c6), .val (.int c7), .val (.int c8)] [(.ref x730), (.ref x721), (.ref x721)]
    obtain ⟨slW790, vvW790, WW790⟩ := W790
    have ne797 : x721 ≠ x730 := Ne.symm (F780.ne_exa XX782 (wd hw 2 rfl))
    have SS792 := Safe.wr WW790 (F780.safe w777.alike (by decide)) w777.chv SS781
    have XX793 := XX782.wr WW790
    have FV794 := FV783.other WW790 (Or.inl ne797)
    have FC795 := FC784.other WW790 (Or.inl ne797)
    have KK796 := KK785.wr WW790 (Or.inr hg742)
    refine blk (pc' := 243) (Ls' := #[.val (.int (Int32.ofNat 7)), .val (.int c0), .val (.int c1), .val (.int c2), .val (.int c3), .val (.int c4), .val (.int c5), .val (.int c6), .val (.int c7), .val (.int c8)]) (st' := [(.int c5), (.int (5 : Int32)), (.ref x730), (.ref x730), (.ref x721), (.ref x721)]) [oDup w788.ok (dc.g 173 rfl), oIconst w788.ok (dc.g 174 rfl), oIload w788.ok (dc.g 175 rfl)] rfl ?_
    refine w788.cst F791 (i := 5) rfl (by simp) (narCh (bc5).1 (bc5).2) (fitsCh (bc5).1 (bc5).2) (Nat.le_trans oz.1 hg742) (dc.g 176 rfl) ?_
    intro T798 h800 w799 W801 F802
    show Go κ _ T798 244 #[.val (.int (Int32.ofNat 7)), .val (.int c0), .val (.int c1), .val (.int c2), .val (.int c3), .val (.int c4), .val (.int c5), .val (.int c6), .val (.int c7), .val (.int c8)] [(.ref x730), (.ref x721), (.ref x721)]
    obtain ⟨slW801, vvW801, WW801⟩ := W801
    have ne808 : x721 ≠ x730 := Ne.symm (F791.ne_exa XX793 (wd hw 2 rfl))
    have SS803 := Safe.wr WW801 (F791.safe w788.alike (by decide)) w788.chv SS792
    have XX804 := XX793.wr WW801
    have FV805 := FV794.other WW801 (Or.inl ne808)
    have FC806 := FC795.other WW801 (Or.inl ne808)
    have KK807 := KK796.wr WW801 (Or.inr hg742)
    refine blk (pc' := 249) (Ls' := #[.val (.int (Int32.ofNat 7)), .val (.int c0), .val (.int c1), .val (.int c2), .val (.int c3), .val (.int c4), .val (.int c5), .val (.int c6), .val (.int c7), .val (.int c8)]) (st' := [(.int c6), (.int (6 : Int32)), (.ref x730), (.ref x730), (.ref x721), (.ref x721)]) [oDup w799.ok (dc.g 177 rfl), oBipush w799.ok (dc.g 178 rfl), oIload w799.ok (dc.g 179 rfl)] rfl ?_
    refine w799.cst F802 (i := 6) rfl (by simp) (narCh (bc6).1 (bc6).2) (fitsCh (bc6).1 (bc6).2) (Nat.le_trans oz.1 hg742) (dc.g 180 rfl) ?_
    intro T809 h811 w810 W812 F813
    show Go κ _ T809 250 #[.val (.int (Int32.ofNat 7)), .val (.int c0), .val (.int c1), .val (.int c2), .val (.int c3), .val (.int c4), .val (.int c5), .val (.int c6), .val (.int c7), .val (.int c8)] [(.ref x730), (.ref x721), (.ref x721)]
    obtain ⟨slW812, vvW812, WW812⟩ := W812
    have ne819 : x721 ≠ x730 := Ne.symm (F802.ne_exa XX804 (wd hw 2 rfl))
    have SS814 := Safe.wr WW812 (F802.safe w799.alike (by decide)) w799.chv SS803
    have XX815 := XX804.wr WW812
    have FV816 := FV805.other WW812 (Or.inl ne819)
    have FC817 := FC806.other WW812 (Or.inl ne819)
    have KK818 := KK807.wr WW812 (Or.inr hg742)
    refine w810.callI rfl (wd hw 52 rfl) (wd hw 53 rfl) (wd hw 54 rfl) (by decide) (a := x721) (argsL := [(.ref x730)]) (Wd := 1) (Ctr.pays (len := 3) (Wd := 1) (c_si1 l Z a0 hw hEL hJS (cs := ([c0, c1, c2, c3, c4, c5, c6] : List Int32)) (w810.old ozs) XX815 FV816 FC817 (Nat.le_trans oz.1 hx741) F813 (by simp) (fun c hc => hL c (by simp at hc ⊢; rcases hc with rfl | rfl | rfl | rfl | rfl | rfl | rfl <;> simp))) w810 (wd hw 54 rfl) (wd hw 1 rfl) hEL (by decide) (by decide) (sfOne XX815.lt SS814)) pd12 rfl (st := [(.ref x721)]) rfl rfl (Nat.le_of_eq rfl) (dc.g 181 rfl) (by decide) (by decide) ?_
    intro vm820 T821 h822 v823 w824 C825 Q826
    obtain ⟨rfl, K827, FS828⟩ := Q826
    show Go κ _ T821 253 #[.val (.int (Int32.ofNat 7)), .val (.int c0), .val (.int c1), .val (.int c2), .val (.int c3), .val (.int c4), .val (.int c5), .val (.int c6), .val (.int c7), .val (.int c8)] [(.ref x721)]
    have K829 := KK818.trans K827 (allS (Or.inr hx741) all0)
    exact w824.retA rfl rfl rfl rfl (dc.g 182 rfl) (by decide) (by decide) (fun S hS => ⟨K829, _, rfl, FS828⟩)
  · show Go κ _ T 0 #[.val (.int (Int32.ofNat 8)), .val (.int c0), .val (.int c1), .val (.int c2), .val (.int c3), .val (.int c4), .val (.int c5), .val (.int c6), .val (.int c7), .val (.int c8)] []
    refine blk (pc' := 1) (Ls' := #[.val (.int (Int32.ofNat 8)), .val (.int c0), .val (.int c1), .val (.int c2), .val (.int c3), .val (.int c4), .val (.int c5), .val (.int c6), .val (.int c7), .val (.int c8)]) (st' := [(.int (Int32.ofNat 8))]) [oIloadN w.ok (dc.g 0 rfl)] rfl ?_
    refine zNe (pc' := 15) w.ok (dc.g 1 rfl) (by decide) (by decide) (fun hc830 => ?_) (fun hc830 => absurd hc830 (by decide))
    show Go κ _ T 15 #[.val (.int (Int32.ofNat 8)), .val (.int c0), .val (.int c1), .val (.int c2), .val (.int c3), .val (.int c4), .val (.int c5), .val (.int c6), .val (.int c7), .val (.int c8)] []
    refine blk (pc' := 17) (Ls' := #[.val (.int (Int32.ofNat 8)), .val (.int c0), .val (.int c1), .val (.int c2), .val (.int c3), .val (.int c4), .val (.int c5), .val (.int c6), .val (.int c7), .val (.int c8)]) (st' := [(.int (1 : Int32)), (.int (Int32.ofNat 8))]) [oIloadN w.ok (dc.g 8 rfl), oIconst w.ok (dc.g 9 rfl)] rfl ?_
    refine cNe (pc' := 35) w.ok (dc.g 10 rfl) (by decide) (by decide) (fun hc831 => ?_) (fun hc831 => absurd hc831 (by decide))
    show Go κ _ T 35 #[.val (.int (Int32.ofNat 8)), .val (.int c0), .val (.int c1), .val (.int c2), .val (.int c3), .val (.int c4), .val (.int c5), .val (.int c6), .val (.int c7), .val (.int c8)] []
    refine blk (pc' := 37) (Ls' := #[.val (.int (Int32.ofNat 8)), .val (.int c0), .val (.int c1), .val (.int c2), .val (.int c3), .val (.int c4), .val (.int c5), .val (.int c6), .val (.int c7), .val (.int c8)]) (st' := [(.int (2 : Int32)), (.int (Int32.ofNat 8))]) [oIloadN w.ok (dc.g 21 rfl), oIconst w.ok (dc.g 22 rfl)] rfl ?_
    refine cNe (pc' := 59) w.ok (dc.g 23 rfl) (by decide) (by decide) (fun hc832 => ?_) (fun hc832 => absurd hc832 (by decide))
    show Go κ _ T 59 #[.val (.int (Int32.ofNat 8)), .val (.int c0), .val (.int c1), .val (.int c2), .val (.int c3), .val (.int c4), .val (.int c5), .val (.int c6), .val (.int c7), .val (.int c8)] []
    refine blk (pc' := 61) (Ls' := #[.val (.int (Int32.ofNat 8)), .val (.int c0), .val (.int c1), .val (.int c2), .val (.int c3), .val (.int c4), .val (.int c5), .val (.int c6), .val (.int c7), .val (.int c8)]) (st' := [(.int (3 : Int32)), (.int (Int32.ofNat 8))]) [oIloadN w.ok (dc.g 38 rfl), oIconst w.ok (dc.g 39 rfl)] rfl ?_
    refine cNe (pc' := 87) w.ok (dc.g 40 rfl) (by decide) (by decide) (fun hc833 => ?_) (fun hc833 => absurd hc833 (by decide))
    show Go κ _ T 87 #[.val (.int (Int32.ofNat 8)), .val (.int c0), .val (.int c1), .val (.int c2), .val (.int c3), .val (.int c4), .val (.int c5), .val (.int c6), .val (.int c7), .val (.int c8)] []
    refine blk (pc' := 89) (Ls' := #[.val (.int (Int32.ofNat 8)), .val (.int c0), .val (.int c1), .val (.int c2), .val (.int c3), .val (.int c4), .val (.int c5), .val (.int c6), .val (.int c7), .val (.int c8)]) (st' := [(.int (4 : Int32)), (.int (Int32.ofNat 8))]) [oIloadN w.ok (dc.g 59 rfl), oIconst w.ok (dc.g 60 rfl)] rfl ?_
    refine cNe (pc' := 120) w.ok (dc.g 61 rfl) (by decide) (by decide) (fun hc834 => ?_) (fun hc834 => absurd hc834 (by decide))
    show Go κ _ T 120 #[.val (.int (Int32.ofNat 8)), .val (.int c0), .val (.int c1), .val (.int c2), .val (.int c3), .val (.int c4), .val (.int c5), .val (.int c6), .val (.int c7), .val (.int c8)] []
    refine blk (pc' := 122) (Ls' := #[.val (.int (Int32.ofNat 8)), .val (.int c0), .val (.int c1), .val (.int c2), .val (.int c3), .val (.int c4), .val (.int c5), .val (.int c6), .val (.int c7), .val (.int c8)]) (st' := [(.int (5 : Int32)), (.int (Int32.ofNat 8))]) [oIloadN w.ok (dc.g 84 rfl), oIconst w.ok (dc.g 85 rfl)] rfl ?_
    refine cNe (pc' := 158) w.ok (dc.g 86 rfl) (by decide) (by decide) (fun hc835 => ?_) (fun hc835 => absurd hc835 (by decide))
    show Go κ _ T 158 #[.val (.int (Int32.ofNat 8)), .val (.int c0), .val (.int c1), .val (.int c2), .val (.int c3), .val (.int c4), .val (.int c5), .val (.int c6), .val (.int c7), .val (.int c8)] []
    refine blk (pc' := 161) (Ls' := #[.val (.int (Int32.ofNat 8)), .val (.int c0), .val (.int c1), .val (.int c2), .val (.int c3), .val (.int c4), .val (.int c5), .val (.int c6), .val (.int c7), .val (.int c8)]) (st' := [(.int (6 : Int32)), (.int (Int32.ofNat 8))]) [oIloadN w.ok (dc.g 113 rfl), oBipush w.ok (dc.g 114 rfl)] rfl ?_
    refine cNe (pc' := 203) w.ok (dc.g 115 rfl) (by decide) (by decide) (fun hc836 => ?_) (fun hc836 => absurd hc836 (by decide))
    show Go κ _ T 203 #[.val (.int (Int32.ofNat 8)), .val (.int c0), .val (.int c1), .val (.int c2), .val (.int c3), .val (.int c4), .val (.int c5), .val (.int c6), .val (.int c7), .val (.int c8)] []
    refine blk (pc' := 206) (Ls' := #[.val (.int (Int32.ofNat 8)), .val (.int c0), .val (.int c1), .val (.int c2), .val (.int c3), .val (.int c4), .val (.int c5), .val (.int c6), .val (.int c7), .val (.int c8)]) (st' := [(.int (7 : Int32)), (.int (Int32.ofNat 8))]) [oIloadN w.ok (dc.g 146 rfl), oBipush w.ok (dc.g 147 rfl)] rfl ?_
    refine cNe (pc' := 254) w.ok (dc.g 148 rfl) (by decide) (by decide) (fun hc837 => ?_) (fun hc837 => absurd hc837 (by decide))
    show Go κ _ T 254 #[.val (.int (Int32.ofNat 8)), .val (.int c0), .val (.int c1), .val (.int c2), .val (.int c3), .val (.int c4), .val (.int c5), .val (.int c6), .val (.int c7), .val (.int c8)] []
    refine blk (pc' := 257) (Ls' := #[.val (.int (Int32.ofNat 8)), .val (.int c0), .val (.int c1), .val (.int c2), .val (.int c3), .val (.int c4), .val (.int c5), .val (.int c6), .val (.int c7), .val (.int c8)]) (st' := [(.int (8 : Int32)), (.int (Int32.ofNat 8))]) [oIloadN w.ok (dc.g 183 rfl), oBipush w.ok (dc.g 184 rfl)] rfl ?_
    refine cNe (pc' := 311) w.ok (dc.g 185 rfl) (by decide) (by decide) (fun hc838 => absurd (by decide) hc838) (fun hc838 => ?_)
    show Go κ _ T 260 #[.val (.int (Int32.ofNat 8)), .val (.int c0), .val (.int c1), .val (.int c2), .val (.int c3), .val (.int c4), .val (.int c5), .val (.int c6), .val (.int c7), .val (.int c8)] []
    refine w.new (wd hw 50 rfl) (wd hw 2 rfl) (wd hw 1 rfl) (dc.g 186 rfl) (by decide) (by decide) ?_
    intro T839 h841 x842 w840 g843 E844 X845 D846 S847
    show Go κ _ T839 263 #[.val (.int (Int32.ofNat 8)), .val (.int c0), .val (.int c1), .val (.int c2), .val (.int c3), .val (.int c4), .val (.int c5), .val (.int c6), .val (.int c7), .val (.int c8)] [(.ref x842)]
    refine blk (pc' := 266) (Ls' := #[.val (.int (Int32.ofNat 8)), .val (.int c0), .val (.int c1), .val (.int c2), .val (.int c3), .val (.int c4), .val (.int c5), .val (.int c6), .val (.int c7), .val (.int c8)]) (st' := [(.int (8 : Int32)), (.ref x842), (.ref x842)]) [oDup w840.ok (dc.g 187 rfl), oBipush w840.ok (dc.g 188 rfl)] rfl ?_
    refine w840.newarr (aty := .char) (wd hw 51 rfl) (dc.g 189 rfl) (c := 8) (by decide) (by decide) (cap := 8) (by first | decide | omega) (by first | decide | omega) (by decide) (by decide) rfl rfl ?_
    intro T848 h850 x851 w849 g852 E853 F854 S855
    show Go κ _ T848 268 #[.val (.int (Int32.ofNat 8)), .val (.int c0), .val (.int c1), .val (.int c2), .val (.int c3), .val (.int c4), .val (.int c5), .val (.int c6), .val (.int c7), .val (.int c8)] [(.ref x851), (.ref x842), (.ref x842)]
    have SS856 := Safe.ext E853 w840.chv S847
    have XX857 := X845.ext E853
    have FV858 := (D846 (Or.inr (wd hw 4 rfl)) (ty := .array .byte) (by decide)).ext E853
    have FC859 := (D846 (Or.inr (wd hw 5 rfl)) (ty := .byte) (by decide)).ext E853
    have KK860 := ((Keep.refl h []).ext E844).ext E853
    have hx862 : h.size ≤ x842 := by rw [g843]; exact Nat.le_refl _
    have hg863 : h.size ≤ x851 := by rw [g852]; exact E844.1
    refine blk (pc' := 271) (Ls' := #[.val (.int (Int32.ofNat 8)), .val (.int c0), .val (.int c1), .val (.int c2), .val (.int c3), .val (.int c4), .val (.int c5), .val (.int c6), .val (.int c7), .val (.int c8)]) (st' := [(.int c0), (.int (0 : Int32)), (.ref x851), (.ref x851), (.ref x842), (.ref x842)]) [oDup w849.ok (dc.g 190 rfl), oIconst w849.ok (dc.g 191 rfl), oIloadN w849.ok (dc.g 192 rfl)] rfl ?_
    refine w849.cst F854 (i := 0) rfl (by simp) (narCh (bc0).1 (bc0).2) (fitsCh (bc0).1 (bc0).2) (Nat.le_trans oz.1 hg863) (dc.g 193 rfl) ?_
    intro T864 h866 w865 W867 F868
    show Go κ _ T864 272 #[.val (.int (Int32.ofNat 8)), .val (.int c0), .val (.int c1), .val (.int c2), .val (.int c3), .val (.int c4), .val (.int c5), .val (.int c6), .val (.int c7), .val (.int c8)] [(.ref x851), (.ref x842), (.ref x842)]
    obtain ⟨slW867, vvW867, WW867⟩ := W867
    have ne874 : x842 ≠ x851 := Ne.symm (F854.ne_exa XX857 (wd hw 2 rfl))
    have SS869 := Safe.wr WW867 (F854.safe w849.alike (by decide)) w849.chv SS856
    have XX870 := XX857.wr WW867
    have FV871 := FV858.other WW867 (Or.inl ne874)
    have FC872 := FC859.other WW867 (Or.inl ne874)
    have KK873 := KK860.wr WW867 (Or.inr hg863)
    refine blk (pc' := 275) (Ls' := #[.val (.int (Int32.ofNat 8)), .val (.int c0), .val (.int c1), .val (.int c2), .val (.int c3), .val (.int c4), .val (.int c5), .val (.int c6), .val (.int c7), .val (.int c8)]) (st' := [(.int c1), (.int (1 : Int32)), (.ref x851), (.ref x851), (.ref x842), (.ref x842)]) [oDup w865.ok (dc.g 194 rfl), oIconst w865.ok (dc.g 195 rfl), oIloadN w865.ok (dc.g 196 rfl)] rfl ?_
    refine w865.cst F868 (i := 1) rfl (by simp) (narCh (bc1).1 (bc1).2) (fitsCh (bc1).1 (bc1).2) (Nat.le_trans oz.1 hg863) (dc.g 197 rfl) ?_
    intro T875 h877 w876 W878 F879
    show Go κ _ T875 276 #[.val (.int (Int32.ofNat 8)), .val (.int c0), .val (.int c1), .val (.int c2), .val (.int c3), .val (.int c4), .val (.int c5), .val (.int c6), .val (.int c7), .val (.int c8)] [(.ref x851), (.ref x842), (.ref x842)]
    obtain ⟨slW878, vvW878, WW878⟩ := W878
    have ne885 : x842 ≠ x851 := Ne.symm (F868.ne_exa XX870 (wd hw 2 rfl))
    have SS880 := Safe.wr WW878 (F868.safe w865.alike (by decide)) w865.chv SS869
    have XX881 := XX870.wr WW878
    have FV882 := FV871.other WW878 (Or.inl ne885)
    have FC883 := FC872.other WW878 (Or.inl ne885)
    have KK884 := KK873.wr WW878 (Or.inr hg863)
    refine blk (pc' := 279) (Ls' := #[.val (.int (Int32.ofNat 8)), .val (.int c0), .val (.int c1), .val (.int c2), .val (.int c3), .val (.int c4), .val (.int c5), .val (.int c6), .val (.int c7), .val (.int c8)]) (st' := [(.int c2), (.int (2 : Int32)), (.ref x851), (.ref x851), (.ref x842), (.ref x842)]) [oDup w876.ok (dc.g 198 rfl), oIconst w876.ok (dc.g 199 rfl), oIloadN w876.ok (dc.g 200 rfl)] rfl ?_
    refine w876.cst F879 (i := 2) rfl (by simp) (narCh (bc2).1 (bc2).2) (fitsCh (bc2).1 (bc2).2) (Nat.le_trans oz.1 hg863) (dc.g 201 rfl) ?_
    intro T886 h888 w887 W889 F890
    show Go κ _ T886 280 #[.val (.int (Int32.ofNat 8)), .val (.int c0), .val (.int c1), .val (.int c2), .val (.int c3), .val (.int c4), .val (.int c5), .val (.int c6), .val (.int c7), .val (.int c8)] [(.ref x851), (.ref x842), (.ref x842)]
    obtain ⟨slW889, vvW889, WW889⟩ := W889
    have ne896 : x842 ≠ x851 := Ne.symm (F879.ne_exa XX881 (wd hw 2 rfl))
    have SS891 := Safe.wr WW889 (F879.safe w876.alike (by decide)) w876.chv SS880
    have XX892 := XX881.wr WW889
    have FV893 := FV882.other WW889 (Or.inl ne896)
    have FC894 := FC883.other WW889 (Or.inl ne896)
    have KK895 := KK884.wr WW889 (Or.inr hg863)
    refine blk (pc' := 284) (Ls' := #[.val (.int (Int32.ofNat 8)), .val (.int c0), .val (.int c1), .val (.int c2), .val (.int c3), .val (.int c4), .val (.int c5), .val (.int c6), .val (.int c7), .val (.int c8)]) (st' := [(.int c3), (.int (3 : Int32)), (.ref x851), (.ref x851), (.ref x842), (.ref x842)]) [oDup w887.ok (dc.g 202 rfl), oIconst w887.ok (dc.g 203 rfl), oIload w887.ok (dc.g 204 rfl)] rfl ?_
    refine w887.cst F890 (i := 3) rfl (by simp) (narCh (bc3).1 (bc3).2) (fitsCh (bc3).1 (bc3).2) (Nat.le_trans oz.1 hg863) (dc.g 205 rfl) ?_
    intro T897 h899 w898 W900 F901
    show Go κ _ T897 285 #[.val (.int (Int32.ofNat 8)), .val (.int c0), .val (.int c1), .val (.int c2), .val (.int c3), .val (.int c4), .val (.int c5), .val (.int c6), .val (.int c7), .val (.int c8)] [(.ref x851), (.ref x842), (.ref x842)]
    obtain ⟨slW900, vvW900, WW900⟩ := W900
    have ne907 : x842 ≠ x851 := Ne.symm (F890.ne_exa XX892 (wd hw 2 rfl))
    have SS902 := Safe.wr WW900 (F890.safe w887.alike (by decide)) w887.chv SS891
    have XX903 := XX892.wr WW900
    have FV904 := FV893.other WW900 (Or.inl ne907)
    have FC905 := FC894.other WW900 (Or.inl ne907)
    have KK906 := KK895.wr WW900 (Or.inr hg863)
    refine blk (pc' := 289) (Ls' := #[.val (.int (Int32.ofNat 8)), .val (.int c0), .val (.int c1), .val (.int c2), .val (.int c3), .val (.int c4), .val (.int c5), .val (.int c6), .val (.int c7), .val (.int c8)]) (st' := [(.int c4), (.int (4 : Int32)), (.ref x851), (.ref x851), (.ref x842), (.ref x842)]) [oDup w898.ok (dc.g 206 rfl), oIconst w898.ok (dc.g 207 rfl), oIload w898.ok (dc.g 208 rfl)] rfl ?_
    refine w898.cst F901 (i := 4) rfl (by simp) (narCh (bc4).1 (bc4).2) (fitsCh (bc4).1 (bc4).2) (Nat.le_trans oz.1 hg863) (dc.g 209 rfl) ?_
    intro T908 h910 w909 W911 F912
    show Go κ _ T908 290 #[.val (.int (Int32.ofNat 8)), .val (.int c0), .val (.int c1), .val (.int c2), .val (.int c3), .val (.int c4), .val (.int c5), .val (.int c6), .val (.int c7), .val (.int c8)] [(.ref x851), (.ref x842), (.ref x842)]
    obtain ⟨slW911, vvW911, WW911⟩ := W911
    have ne918 : x842 ≠ x851 := Ne.symm (F901.ne_exa XX903 (wd hw 2 rfl))
    have SS913 := Safe.wr WW911 (F901.safe w898.alike (by decide)) w898.chv SS902
    have XX914 := XX903.wr WW911
    have FV915 := FV904.other WW911 (Or.inl ne918)
    have FC916 := FC905.other WW911 (Or.inl ne918)
    have KK917 := KK906.wr WW911 (Or.inr hg863)
    refine blk (pc' := 294) (Ls' := #[.val (.int (Int32.ofNat 8)), .val (.int c0), .val (.int c1), .val (.int c2), .val (.int c3), .val (.int c4), .val (.int c5), .val (.int c6), .val (.int c7), .val (.int c8)]) (st' := [(.int c5), (.int (5 : Int32)), (.ref x851), (.ref x851), (.ref x842), (.ref x842)]) [oDup w909.ok (dc.g 210 rfl), oIconst w909.ok (dc.g 211 rfl), oIload w909.ok (dc.g 212 rfl)] rfl ?_
    refine w909.cst F912 (i := 5) rfl (by simp) (narCh (bc5).1 (bc5).2) (fitsCh (bc5).1 (bc5).2) (Nat.le_trans oz.1 hg863) (dc.g 213 rfl) ?_
    intro T919 h921 w920 W922 F923
    show Go κ _ T919 295 #[.val (.int (Int32.ofNat 8)), .val (.int c0), .val (.int c1), .val (.int c2), .val (.int c3), .val (.int c4), .val (.int c5), .val (.int c6), .val (.int c7), .val (.int c8)] [(.ref x851), (.ref x842), (.ref x842)]
    obtain ⟨slW922, vvW922, WW922⟩ := W922
    have ne929 : x842 ≠ x851 := Ne.symm (F912.ne_exa XX914 (wd hw 2 rfl))
    have SS924 := Safe.wr WW922 (F912.safe w909.alike (by decide)) w909.chv SS913
    have XX925 := XX914.wr WW922
    have FV926 := FV915.other WW922 (Or.inl ne929)
    have FC927 := FC916.other WW922 (Or.inl ne929)
    have KK928 := KK917.wr WW922 (Or.inr hg863)
    refine blk (pc' := 300) (Ls' := #[.val (.int (Int32.ofNat 8)), .val (.int c0), .val (.int c1), .val (.int c2), .val (.int c3), .val (.int c4), .val (.int c5), .val (.int c6), .val (.int c7), .val (.int c8)]) (st' := [(.int c6), (.int (6 : Int32)), (.ref x851), (.ref x851), (.ref x842), (.ref x842)]) [oDup w920.ok (dc.g 214 rfl), oBipush w920.ok (dc.g 215 rfl), oIload w920.ok (dc.g 216 rfl)] rfl ?_
    refine w920.cst F923 (i := 6) rfl (by simp) (narCh (bc6).1 (bc6).2) (fitsCh (bc6).1 (bc6).2) (Nat.le_trans oz.1 hg863) (dc.g 217 rfl) ?_
    intro T930 h932 w931 W933 F934
    show Go κ _ T930 301 #[.val (.int (Int32.ofNat 8)), .val (.int c0), .val (.int c1), .val (.int c2), .val (.int c3), .val (.int c4), .val (.int c5), .val (.int c6), .val (.int c7), .val (.int c8)] [(.ref x851), (.ref x842), (.ref x842)]
    obtain ⟨slW933, vvW933, WW933⟩ := W933
    have ne940 : x842 ≠ x851 := Ne.symm (F923.ne_exa XX925 (wd hw 2 rfl))
    have SS935 := Safe.wr WW933 (F923.safe w920.alike (by decide)) w920.chv SS924
    have XX936 := XX925.wr WW933
    have FV937 := FV926.other WW933 (Or.inl ne940)
    have FC938 := FC927.other WW933 (Or.inl ne940)
    have KK939 := KK928.wr WW933 (Or.inr hg863)
    refine blk (pc' := 306) (Ls' := #[.val (.int (Int32.ofNat 8)), .val (.int c0), .val (.int c1), .val (.int c2), .val (.int c3), .val (.int c4), .val (.int c5), .val (.int c6), .val (.int c7), .val (.int c8)]) (st' := [(.int c7), (.int (7 : Int32)), (.ref x851), (.ref x851), (.ref x842), (.ref x842)]) [oDup w931.ok (dc.g 218 rfl), oBipush w931.ok (dc.g 219 rfl), oIload w931.ok (dc.g 220 rfl)] rfl ?_
    refine w931.cst F934 (i := 7) rfl (by simp) (narCh (bc7).1 (bc7).2) (fitsCh (bc7).1 (bc7).2) (Nat.le_trans oz.1 hg863) (dc.g 221 rfl) ?_
    intro T941 h943 w942 W944 F945
    show Go κ _ T941 307 #[.val (.int (Int32.ofNat 8)), .val (.int c0), .val (.int c1), .val (.int c2), .val (.int c3), .val (.int c4), .val (.int c5), .val (.int c6), .val (.int c7), .val (.int c8)] [(.ref x851), (.ref x842), (.ref x842)]
    obtain ⟨slW944, vvW944, WW944⟩ := W944
    have ne951 : x842 ≠ x851 := Ne.symm (F934.ne_exa XX936 (wd hw 2 rfl))
    have SS946 := Safe.wr WW944 (F934.safe w931.alike (by decide)) w931.chv SS935
    have XX947 := XX936.wr WW944
    have FV948 := FV937.other WW944 (Or.inl ne951)
    have FC949 := FC938.other WW944 (Or.inl ne951)
    have KK950 := KK939.wr WW944 (Or.inr hg863)
    refine w942.callI rfl (wd hw 52 rfl) (wd hw 53 rfl) (wd hw 54 rfl) (by decide) (a := x842) (argsL := [(.ref x851)]) (Wd := 1) (Ctr.pays (len := 3) (Wd := 1) (c_si1 l Z a0 hw hEL hJS (cs := ([c0, c1, c2, c3, c4, c5, c6, c7] : List Int32)) (w942.old ozs) XX947 FV948 FC949 (Nat.le_trans oz.1 hx862) F945 (by simp) (fun c hc => hL c (by simp at hc ⊢; rcases hc with rfl | rfl | rfl | rfl | rfl | rfl | rfl | rfl <;> simp))) w942 (wd hw 54 rfl) (wd hw 1 rfl) hEL (by decide) (by decide) (sfOne XX947.lt SS946)) pd12 rfl (st := [(.ref x842)]) rfl rfl (Nat.le_of_eq rfl) (dc.g 222 rfl) (by decide) (by decide) ?_
    intro vm952 T953 h954 v955 w956 C957 Q958
    obtain ⟨rfl, K959, FS960⟩ := Q958
    show Go κ _ T953 310 #[.val (.int (Int32.ofNat 8)), .val (.int c0), .val (.int c1), .val (.int c2), .val (.int c3), .val (.int c4), .val (.int c5), .val (.int c6), .val (.int c7), .val (.int c8)] [(.ref x842)]
    have K961 := KK950.trans K959 (allS (Or.inr hx862) all0)
    exact w956.retA rfl rfl rfl rfl (dc.g 223 rfl) (by decide) (by decide) (fun S hS => ⟨K961, _, rfl, FS960⟩)
  · show Go κ _ T 0 #[.val (.int (Int32.ofNat 9)), .val (.int c0), .val (.int c1), .val (.int c2), .val (.int c3), .val (.int c4), .val (.int c5), .val (.int c6), .val (.int c7), .val (.int c8)] []
    refine blk (pc' := 1) (Ls' := #[.val (.int (Int32.ofNat 9)), .val (.int c0), .val (.int c1), .val (.int c2), .val (.int c3), .val (.int c4), .val (.int c5), .val (.int c6), .val (.int c7), .val (.int c8)]) (st' := [(.int (Int32.ofNat 9))]) [oIloadN w.ok (dc.g 0 rfl)] rfl ?_
    refine zNe (pc' := 15) w.ok (dc.g 1 rfl) (by decide) (by decide) (fun hc962 => ?_) (fun hc962 => absurd hc962 (by decide))
    show Go κ _ T 15 #[.val (.int (Int32.ofNat 9)), .val (.int c0), .val (.int c1), .val (.int c2), .val (.int c3), .val (.int c4), .val (.int c5), .val (.int c6), .val (.int c7), .val (.int c8)] []
    refine blk (pc' := 17) (Ls' := #[.val (.int (Int32.ofNat 9)), .val (.int c0), .val (.int c1), .val (.int c2), .val (.int c3), .val (.int c4), .val (.int c5), .val (.int c6), .val (.int c7), .val (.int c8)]) (st' := [(.int (1 : Int32)), (.int (Int32.ofNat 9))]) [oIloadN w.ok (dc.g 8 rfl), oIconst w.ok (dc.g 9 rfl)] rfl ?_
    refine cNe (pc' := 35) w.ok (dc.g 10 rfl) (by decide) (by decide) (fun hc963 => ?_) (fun hc963 => absurd hc963 (by decide))
    show Go κ _ T 35 #[.val (.int (Int32.ofNat 9)), .val (.int c0), .val (.int c1), .val (.int c2), .val (.int c3), .val (.int c4), .val (.int c5), .val (.int c6), .val (.int c7), .val (.int c8)] []
    refine blk (pc' := 37) (Ls' := #[.val (.int (Int32.ofNat 9)), .val (.int c0), .val (.int c1), .val (.int c2), .val (.int c3), .val (.int c4), .val (.int c5), .val (.int c6), .val (.int c7), .val (.int c8)]) (st' := [(.int (2 : Int32)), (.int (Int32.ofNat 9))]) [oIloadN w.ok (dc.g 21 rfl), oIconst w.ok (dc.g 22 rfl)] rfl ?_
    refine cNe (pc' := 59) w.ok (dc.g 23 rfl) (by decide) (by decide) (fun hc964 => ?_) (fun hc964 => absurd hc964 (by decide))
    show Go κ _ T 59 #[.val (.int (Int32.ofNat 9)), .val (.int c0), .val (.int c1), .val (.int c2), .val (.int c3), .val (.int c4), .val (.int c5), .val (.int c6), .val (.int c7), .val (.int c8)] []
    refine blk (pc' := 61) (Ls' := #[.val (.int (Int32.ofNat 9)), .val (.int c0), .val (.int c1), .val (.int c2), .val (.int c3), .val (.int c4), .val (.int c5), .val (.int c6), .val (.int c7), .val (.int c8)]) (st' := [(.int (3 : Int32)), (.int (Int32.ofNat 9))]) [oIloadN w.ok (dc.g 38 rfl), oIconst w.ok (dc.g 39 rfl)] rfl ?_
    refine cNe (pc' := 87) w.ok (dc.g 40 rfl) (by decide) (by decide) (fun hc965 => ?_) (fun hc965 => absurd hc965 (by decide))
    show Go κ _ T 87 #[.val (.int (Int32.ofNat 9)), .val (.int c0), .val (.int c1), .val (.int c2), .val (.int c3), .val (.int c4), .val (.int c5), .val (.int c6), .val (.int c7), .val (.int c8)] []
    refine blk (pc' := 89) (Ls' := #[.val (.int (Int32.ofNat 9)), .val (.int c0), .val (.int c1), .val (.int c2), .val (.int c3), .val (.int c4), .val (.int c5), .val (.int c6), .val (.int c7), .val (.int c8)]) (st' := [(.int (4 : Int32)), (.int (Int32.ofNat 9))]) [oIloadN w.ok (dc.g 59 rfl), oIconst w.ok (dc.g 60 rfl)] rfl ?_
    refine cNe (pc' := 120) w.ok (dc.g 61 rfl) (by decide) (by decide) (fun hc966 => ?_) (fun hc966 => absurd hc966 (by decide))
    show Go κ _ T 120 #[.val (.int (Int32.ofNat 9)), .val (.int c0), .val (.int c1), .val (.int c2), .val (.int c3), .val (.int c4), .val (.int c5), .val (.int c6), .val (.int c7), .val (.int c8)] []
    refine blk (pc' := 122) (Ls' := #[.val (.int (Int32.ofNat 9)), .val (.int c0), .val (.int c1), .val (.int c2), .val (.int c3), .val (.int c4), .val (.int c5), .val (.int c6), .val (.int c7), .val (.int c8)]) (st' := [(.int (5 : Int32)), (.int (Int32.ofNat 9))]) [oIloadN w.ok (dc.g 84 rfl), oIconst w.ok (dc.g 85 rfl)] rfl ?_
    refine cNe (pc' := 158) w.ok (dc.g 86 rfl) (by decide) (by decide) (fun hc967 => ?_) (fun hc967 => absurd hc967 (by decide))
    show Go κ _ T 158 #[.val (.int (Int32.ofNat 9)), .val (.int c0), .val (.int c1), .val (.int c2), .val (.int c3), .val (.int c4), .val (.int c5), .val (.int c6), .val (.int c7), .val (.int c8)] []
    refine blk (pc' := 161) (Ls' := #[.val (.int (Int32.ofNat 9)), .val (.int c0), .val (.int c1), .val (.int c2), .val (.int c3), .val (.int c4), .val (.int c5), .val (.int c6), .val (.int c7), .val (.int c8)]) (st' := [(.int (6 : Int32)), (.int (Int32.ofNat 9))]) [oIloadN w.ok (dc.g 113 rfl), oBipush w.ok (dc.g 114 rfl)] rfl ?_
    refine cNe (pc' := 203) w.ok (dc.g 115 rfl) (by decide) (by decide) (fun hc968 => ?_) (fun hc968 => absurd hc968 (by decide))
    show Go κ _ T 203 #[.val (.int (Int32.ofNat 9)), .val (.int c0), .val (.int c1), .val (.int c2), .val (.int c3), .val (.int c4), .val (.int c5), .val (.int c6), .val (.int c7), .val (.int c8)] []
    refine blk (pc' := 206) (Ls' := #[.val (.int (Int32.ofNat 9)), .val (.int c0), .val (.int c1), .val (.int c2), .val (.int c3), .val (.int c4), .val (.int c5), .val (.int c6), .val (.int c7), .val (.int c8)]) (st' := [(.int (7 : Int32)), (.int (Int32.ofNat 9))]) [oIloadN w.ok (dc.g 146 rfl), oBipush w.ok (dc.g 147 rfl)] rfl ?_
    refine cNe (pc' := 254) w.ok (dc.g 148 rfl) (by decide) (by decide) (fun hc969 => ?_) (fun hc969 => absurd hc969 (by decide))
    show Go κ _ T 254 #[.val (.int (Int32.ofNat 9)), .val (.int c0), .val (.int c1), .val (.int c2), .val (.int c3), .val (.int c4), .val (.int c5), .val (.int c6), .val (.int c7), .val (.int c8)] []
    refine blk (pc' := 257) (Ls' := #[.val (.int (Int32.ofNat 9)), .val (.int c0), .val (.int c1), .val (.int c2), .val (.int c3), .val (.int c4), .val (.int c5), .val (.int c6), .val (.int c7), .val (.int c8)]) (st' := [(.int (8 : Int32)), (.int (Int32.ofNat 9))]) [oIloadN w.ok (dc.g 183 rfl), oBipush w.ok (dc.g 184 rfl)] rfl ?_
    refine cNe (pc' := 311) w.ok (dc.g 185 rfl) (by decide) (by decide) (fun hc970 => ?_) (fun hc970 => absurd hc970 (by decide))
    show Go κ _ T 311 #[.val (.int (Int32.ofNat 9)), .val (.int c0), .val (.int c1), .val (.int c2), .val (.int c3), .val (.int c4), .val (.int c5), .val (.int c6), .val (.int c7), .val (.int c8)] []
    refine w.new (wd hw 50 rfl) (wd hw 2 rfl) (wd hw 1 rfl) (dc.g 224 rfl) (by decide) (by decide) ?_
    intro T971 h973 x974 w972 g975 E976 X977 D978 S979
    show Go κ _ T971 314 #[.val (.int (Int32.ofNat 9)), .val (.int c0), .val (.int c1), .val (.int c2), .val (.int c3), .val (.int c4), .val (.int c5), .val (.int c6), .val (.int c7), .val (.int c8)] [(.ref x974)]
    refine blk (pc' := 317) (Ls' := #[.val (.int (Int32.ofNat 9)), .val (.int c0), .val (.int c1), .val (.int c2), .val (.int c3), .val (.int c4), .val (.int c5), .val (.int c6), .val (.int c7), .val (.int c8)]) (st' := [(.int (9 : Int32)), (.ref x974), (.ref x974)]) [oDup w972.ok (dc.g 225 rfl), oBipush w972.ok (dc.g 226 rfl)] rfl ?_
    refine w972.newarr (aty := .char) (wd hw 51 rfl) (dc.g 227 rfl) (c := 9) (by decide) (by decide) (cap := 9) (by first | decide | omega) (by first | decide | omega) (by decide) (by decide) rfl rfl ?_
    intro T980 h982 x983 w981 g984 E985 F986 S987
    show Go κ _ T980 319 #[.val (.int (Int32.ofNat 9)), .val (.int c0), .val (.int c1), .val (.int c2), .val (.int c3), .val (.int c4), .val (.int c5), .val (.int c6), .val (.int c7), .val (.int c8)] [(.ref x983), (.ref x974), (.ref x974)]
    have SS988 := Safe.ext E985 w972.chv S979
    have XX989 := X977.ext E985
    have FV990 := (D978 (Or.inr (wd hw 4 rfl)) (ty := .array .byte) (by decide)).ext E985
    have FC991 := (D978 (Or.inr (wd hw 5 rfl)) (ty := .byte) (by decide)).ext E985
    have KK992 := ((Keep.refl h []).ext E976).ext E985
    have hx994 : h.size ≤ x974 := by rw [g975]; exact Nat.le_refl _
    have hg995 : h.size ≤ x983 := by rw [g984]; exact E976.1
    refine blk (pc' := 322) (Ls' := #[.val (.int (Int32.ofNat 9)), .val (.int c0), .val (.int c1), .val (.int c2), .val (.int c3), .val (.int c4), .val (.int c5), .val (.int c6), .val (.int c7), .val (.int c8)]) (st' := [(.int c0), (.int (0 : Int32)), (.ref x983), (.ref x983), (.ref x974), (.ref x974)]) [oDup w981.ok (dc.g 228 rfl), oIconst w981.ok (dc.g 229 rfl), oIloadN w981.ok (dc.g 230 rfl)] rfl ?_
    refine w981.cst F986 (i := 0) rfl (by simp) (narCh (bc0).1 (bc0).2) (fitsCh (bc0).1 (bc0).2) (Nat.le_trans oz.1 hg995) (dc.g 231 rfl) ?_
    intro T996 h998 w997 W999 F1000
    show Go κ _ T996 323 #[.val (.int (Int32.ofNat 9)), .val (.int c0), .val (.int c1), .val (.int c2), .val (.int c3), .val (.int c4), .val (.int c5), .val (.int c6), .val (.int c7), .val (.int c8)] [(.ref x983), (.ref x974), (.ref x974)]
    obtain ⟨slW999, vvW999, WW999⟩ := W999
    have ne1006 : x974 ≠ x983 := Ne.symm (F986.ne_exa XX989 (wd hw 2 rfl))
    have SS1001 := Safe.wr WW999 (F986.safe w981.alike (by decide)) w981.chv SS988
    have XX1002 := XX989.wr WW999
    have FV1003 := FV990.other WW999 (Or.inl ne1006)
    have FC1004 := FC991.other WW999 (Or.inl ne1006)
    have KK1005 := KK992.wr WW999 (Or.inr hg995)
    refine blk (pc' := 326) (Ls' := #[.val (.int (Int32.ofNat 9)), .val (.int c0), .val (.int c1), .val (.int c2), .val (.int c3), .val (.int c4), .val (.int c5), .val (.int c6), .val (.int c7), .val (.int c8)]) (st' := [(.int c1), (.int (1 : Int32)), (.ref x983), (.ref x983), (.ref x974), (.ref x974)]) [oDup w997.ok (dc.g 232 rfl), oIconst w997.ok (dc.g 233 rfl), oIloadN w997.ok (dc.g 234 rfl)] rfl ?_
    refine w997.cst F1000 (i := 1) rfl (by simp) (narCh (bc1).1 (bc1).2) (fitsCh (bc1).1 (bc1).2) (Nat.le_trans oz.1 hg995) (dc.g 235 rfl) ?_
    intro T1007 h1009 w1008 W1010 F1011
    show Go κ _ T1007 327 #[.val (.int (Int32.ofNat 9)), .val (.int c0), .val (.int c1), .val (.int c2), .val (.int c3), .val (.int c4), .val (.int c5), .val (.int c6), .val (.int c7), .val (.int c8)] [(.ref x983), (.ref x974), (.ref x974)]
    obtain ⟨slW1010, vvW1010, WW1010⟩ := W1010
    have ne1017 : x974 ≠ x983 := Ne.symm (F1000.ne_exa XX1002 (wd hw 2 rfl))
    have SS1012 := Safe.wr WW1010 (F1000.safe w997.alike (by decide)) w997.chv SS1001
    have XX1013 := XX1002.wr WW1010
    have FV1014 := FV1003.other WW1010 (Or.inl ne1017)
    have FC1015 := FC1004.other WW1010 (Or.inl ne1017)
    have KK1016 := KK1005.wr WW1010 (Or.inr hg995)
    refine blk (pc' := 330) (Ls' := #[.val (.int (Int32.ofNat 9)), .val (.int c0), .val (.int c1), .val (.int c2), .val (.int c3), .val (.int c4), .val (.int c5), .val (.int c6), .val (.int c7), .val (.int c8)]) (st' := [(.int c2), (.int (2 : Int32)), (.ref x983), (.ref x983), (.ref x974), (.ref x974)]) [oDup w1008.ok (dc.g 236 rfl), oIconst w1008.ok (dc.g 237 rfl), oIloadN w1008.ok (dc.g 238 rfl)] rfl ?_
    refine w1008.cst F1011 (i := 2) rfl (by simp) (narCh (bc2).1 (bc2).2) (fitsCh (bc2).1 (bc2).2) (Nat.le_trans oz.1 hg995) (dc.g 239 rfl) ?_
    intro T1018 h1020 w1019 W1021 F1022
    show Go κ _ T1018 331 #[.val (.int (Int32.ofNat 9)), .val (.int c0), .val (.int c1), .val (.int c2), .val (.int c3), .val (.int c4), .val (.int c5), .val (.int c6), .val (.int c7), .val (.int c8)] [(.ref x983), (.ref x974), (.ref x974)]
    obtain ⟨slW1021, vvW1021, WW1021⟩ := W1021
    have ne1028 : x974 ≠ x983 := Ne.symm (F1011.ne_exa XX1013 (wd hw 2 rfl))
    have SS1023 := Safe.wr WW1021 (F1011.safe w1008.alike (by decide)) w1008.chv SS1012
    have XX1024 := XX1013.wr WW1021
    have FV1025 := FV1014.other WW1021 (Or.inl ne1028)
    have FC1026 := FC1015.other WW1021 (Or.inl ne1028)
    have KK1027 := KK1016.wr WW1021 (Or.inr hg995)
    refine blk (pc' := 335) (Ls' := #[.val (.int (Int32.ofNat 9)), .val (.int c0), .val (.int c1), .val (.int c2), .val (.int c3), .val (.int c4), .val (.int c5), .val (.int c6), .val (.int c7), .val (.int c8)]) (st' := [(.int c3), (.int (3 : Int32)), (.ref x983), (.ref x983), (.ref x974), (.ref x974)]) [oDup w1019.ok (dc.g 240 rfl), oIconst w1019.ok (dc.g 241 rfl), oIload w1019.ok (dc.g 242 rfl)] rfl ?_
    refine w1019.cst F1022 (i := 3) rfl (by simp) (narCh (bc3).1 (bc3).2) (fitsCh (bc3).1 (bc3).2) (Nat.le_trans oz.1 hg995) (dc.g 243 rfl) ?_
    intro T1029 h1031 w1030 W1032 F1033
    show Go κ _ T1029 336 #[.val (.int (Int32.ofNat 9)), .val (.int c0), .val (.int c1), .val (.int c2), .val (.int c3), .val (.int c4), .val (.int c5), .val (.int c6), .val (.int c7), .val (.int c8)] [(.ref x983), (.ref x974), (.ref x974)]
    obtain ⟨slW1032, vvW1032, WW1032⟩ := W1032
    have ne1039 : x974 ≠ x983 := Ne.symm (F1022.ne_exa XX1024 (wd hw 2 rfl))
    have SS1034 := Safe.wr WW1032 (F1022.safe w1019.alike (by decide)) w1019.chv SS1023
    have XX1035 := XX1024.wr WW1032
    have FV1036 := FV1025.other WW1032 (Or.inl ne1039)
    have FC1037 := FC1026.other WW1032 (Or.inl ne1039)
    have KK1038 := KK1027.wr WW1032 (Or.inr hg995)
    refine blk (pc' := 340) (Ls' := #[.val (.int (Int32.ofNat 9)), .val (.int c0), .val (.int c1), .val (.int c2), .val (.int c3), .val (.int c4), .val (.int c5), .val (.int c6), .val (.int c7), .val (.int c8)]) (st' := [(.int c4), (.int (4 : Int32)), (.ref x983), (.ref x983), (.ref x974), (.ref x974)]) [oDup w1030.ok (dc.g 244 rfl), oIconst w1030.ok (dc.g 245 rfl), oIload w1030.ok (dc.g 246 rfl)] rfl ?_
    refine w1030.cst F1033 (i := 4) rfl (by simp) (narCh (bc4).1 (bc4).2) (fitsCh (bc4).1 (bc4).2) (Nat.le_trans oz.1 hg995) (dc.g 247 rfl) ?_
    intro T1040 h1042 w1041 W1043 F1044
    show Go κ _ T1040 341 #[.val (.int (Int32.ofNat 9)), .val (.int c0), .val (.int c1), .val (.int c2), .val (.int c3), .val (.int c4), .val (.int c5), .val (.int c6), .val (.int c7), .val (.int c8)] [(.ref x983), (.ref x974), (.ref x974)]
    obtain ⟨slW1043, vvW1043, WW1043⟩ := W1043
    have ne1050 : x974 ≠ x983 := Ne.symm (F1033.ne_exa XX1035 (wd hw 2 rfl))
    have SS1045 := Safe.wr WW1043 (F1033.safe w1030.alike (by decide)) w1030.chv SS1034
    have XX1046 := XX1035.wr WW1043
    have FV1047 := FV1036.other WW1043 (Or.inl ne1050)
    have FC1048 := FC1037.other WW1043 (Or.inl ne1050)
    have KK1049 := KK1038.wr WW1043 (Or.inr hg995)
    refine blk (pc' := 345) (Ls' := #[.val (.int (Int32.ofNat 9)), .val (.int c0), .val (.int c1), .val (.int c2), .val (.int c3), .val (.int c4), .val (.int c5), .val (.int c6), .val (.int c7), .val (.int c8)]) (st' := [(.int c5), (.int (5 : Int32)), (.ref x983), (.ref x983), (.ref x974), (.ref x974)]) [oDup w1041.ok (dc.g 248 rfl), oIconst w1041.ok (dc.g 249 rfl), oIload w1041.ok (dc.g 250 rfl)] rfl ?_
    refine w1041.cst F1044 (i := 5) rfl (by simp) (narCh (bc5).1 (bc5).2) (fitsCh (bc5).1 (bc5).2) (Nat.le_trans oz.1 hg995) (dc.g 251 rfl) ?_
    intro T1051 h1053 w1052 W1054 F1055
    show Go κ _ T1051 346 #[.val (.int (Int32.ofNat 9)), .val (.int c0), .val (.int c1), .val (.int c2), .val (.int c3), .val (.int c4), .val (.int c5), .val (.int c6), .val (.int c7), .val (.int c8)] [(.ref x983), (.ref x974), (.ref x974)]
    obtain ⟨slW1054, vvW1054, WW1054⟩ := W1054
    have ne1061 : x974 ≠ x983 := Ne.symm (F1044.ne_exa XX1046 (wd hw 2 rfl))
    have SS1056 := Safe.wr WW1054 (F1044.safe w1041.alike (by decide)) w1041.chv SS1045
    have XX1057 := XX1046.wr WW1054
    have FV1058 := FV1047.other WW1054 (Or.inl ne1061)
    have FC1059 := FC1048.other WW1054 (Or.inl ne1061)
    have KK1060 := KK1049.wr WW1054 (Or.inr hg995)
    refine blk (pc' := 351) (Ls' := #[.val (.int (Int32.ofNat 9)), .val (.int c0), .val (.int c1), .val (.int c2), .val (.int c3), .val (.int c4), .val (.int c5), .val (.int c6), .val (.int c7), .val (.int c8)]) (st' := [(.int c6), (.int (6 : Int32)), (.ref x983), (.ref x983), (.ref x974), (.ref x974)]) [oDup w1052.ok (dc.g 252 rfl), oBipush w1052.ok (dc.g 253 rfl), oIload w1052.ok (dc.g 254 rfl)] rfl ?_
    refine w1052.cst F1055 (i := 6) rfl (by simp) (narCh (bc6).1 (bc6).2) (fitsCh (bc6).1 (bc6).2) (Nat.le_trans oz.1 hg995) (dc.g 255 rfl) ?_
    intro T1062 h1064 w1063 W1065 F1066
    show Go κ _ T1062 352 #[.val (.int (Int32.ofNat 9)), .val (.int c0), .val (.int c1), .val (.int c2), .val (.int c3), .val (.int c4), .val (.int c5), .val (.int c6), .val (.int c7), .val (.int c8)] [(.ref x983), (.ref x974), (.ref x974)]
    obtain ⟨slW1065, vvW1065, WW1065⟩ := W1065
    have ne1072 : x974 ≠ x983 := Ne.symm (F1055.ne_exa XX1057 (wd hw 2 rfl))
    have SS1067 := Safe.wr WW1065 (F1055.safe w1052.alike (by decide)) w1052.chv SS1056
    have XX1068 := XX1057.wr WW1065
    have FV1069 := FV1058.other WW1065 (Or.inl ne1072)
    have FC1070 := FC1059.other WW1065 (Or.inl ne1072)
    have KK1071 := KK1060.wr WW1065 (Or.inr hg995)
    refine blk (pc' := 357) (Ls' := #[.val (.int (Int32.ofNat 9)), .val (.int c0), .val (.int c1), .val (.int c2), .val (.int c3), .val (.int c4), .val (.int c5), .val (.int c6), .val (.int c7), .val (.int c8)]) (st' := [(.int c7), (.int (7 : Int32)), (.ref x983), (.ref x983), (.ref x974), (.ref x974)]) [oDup w1063.ok (dc.g 256 rfl), oBipush w1063.ok (dc.g 257 rfl), oIload w1063.ok (dc.g 258 rfl)] rfl ?_
    refine w1063.cst F1066 (i := 7) rfl (by simp) (narCh (bc7).1 (bc7).2) (fitsCh (bc7).1 (bc7).2) (Nat.le_trans oz.1 hg995) (dc.g 259 rfl) ?_
    intro T1073 h1075 w1074 W1076 F1077
    show Go κ _ T1073 358 #[.val (.int (Int32.ofNat 9)), .val (.int c0), .val (.int c1), .val (.int c2), .val (.int c3), .val (.int c4), .val (.int c5), .val (.int c6), .val (.int c7), .val (.int c8)] [(.ref x983), (.ref x974), (.ref x974)]
    obtain ⟨slW1076, vvW1076, WW1076⟩ := W1076
    have ne1083 : x974 ≠ x983 := Ne.symm (F1066.ne_exa XX1068 (wd hw 2 rfl))
    have SS1078 := Safe.wr WW1076 (F1066.safe w1063.alike (by decide)) w1063.chv SS1067
    have XX1079 := XX1068.wr WW1076
    have FV1080 := FV1069.other WW1076 (Or.inl ne1083)
    have FC1081 := FC1070.other WW1076 (Or.inl ne1083)
    have KK1082 := KK1071.wr WW1076 (Or.inr hg995)
    refine blk (pc' := 363) (Ls' := #[.val (.int (Int32.ofNat 9)), .val (.int c0), .val (.int c1), .val (.int c2), .val (.int c3), .val (.int c4), .val (.int c5), .val (.int c6), .val (.int c7), .val (.int c8)]) (st' := [(.int c8), (.int (8 : Int32)), (.ref x983), (.ref x983), (.ref x974), (.ref x974)]) [oDup w1074.ok (dc.g 260 rfl), oBipush w1074.ok (dc.g 261 rfl), oIload w1074.ok (dc.g 262 rfl)] rfl ?_
    refine w1074.cst F1077 (i := 8) rfl (by simp) (narCh (bc8).1 (bc8).2) (fitsCh (bc8).1 (bc8).2) (Nat.le_trans oz.1 hg995) (dc.g 263 rfl) ?_
    intro T1084 h1086 w1085 W1087 F1088
    show Go κ _ T1084 364 #[.val (.int (Int32.ofNat 9)), .val (.int c0), .val (.int c1), .val (.int c2), .val (.int c3), .val (.int c4), .val (.int c5), .val (.int c6), .val (.int c7), .val (.int c8)] [(.ref x983), (.ref x974), (.ref x974)]
    obtain ⟨slW1087, vvW1087, WW1087⟩ := W1087
    have ne1094 : x974 ≠ x983 := Ne.symm (F1077.ne_exa XX1079 (wd hw 2 rfl))
    have SS1089 := Safe.wr WW1087 (F1077.safe w1074.alike (by decide)) w1074.chv SS1078
    have XX1090 := XX1079.wr WW1087
    have FV1091 := FV1080.other WW1087 (Or.inl ne1094)
    have FC1092 := FC1081.other WW1087 (Or.inl ne1094)
    have KK1093 := KK1082.wr WW1087 (Or.inr hg995)
    refine w1085.callI rfl (wd hw 52 rfl) (wd hw 53 rfl) (wd hw 54 rfl) (by decide) (a := x974) (argsL := [(.ref x983)]) (Wd := 1) (Ctr.pays (len := 3) (Wd := 1) (c_si1 l Z a0 hw hEL hJS (cs := ([c0, c1, c2, c3, c4, c5, c6, c7, c8] : List Int32)) (w1085.old ozs) XX1090 FV1091 FC1092 (Nat.le_trans oz.1 hx994) F1088 (by simp) (fun c hc => hL c (by simp at hc ⊢; rcases hc with rfl | rfl | rfl | rfl | rfl | rfl | rfl | rfl | rfl <;> simp))) w1085 (wd hw 54 rfl) (wd hw 1 rfl) hEL (by decide) (by decide) (sfOne XX1090.lt SS1089)) pd12 rfl (st := [(.ref x974)]) rfl rfl (Nat.le_of_eq rfl) (dc.g 264 rfl) (by decide) (by decide) ?_
    intro vm1095 T1096 h1097 v1098 w1099 C1100 Q1101
    obtain ⟨rfl, K1102, FS1103⟩ := Q1101
    show Go κ _ T1096 367 #[.val (.int (Int32.ofNat 9)), .val (.int c0), .val (.int c1), .val (.int c2), .val (.int c3), .val (.int c4), .val (.int c5), .val (.int c6), .val (.int c7), .val (.int c8)] [(.ref x974)]
    have K1104 := KK1093.trans K1102 (allS (Or.inr hx994) all0)
    exact w1099.retA rfl rfl rfl rfl (dc.g 265 rfl) (by decide) (by decide) (fun S hS => ⟨K1104, _, rfl, FS1103⟩)
def D_conn : List (Nat × Instr × Nat) := [(0, .aload_n 0, 1), (1, .ldc 45, 2), (3, .invokevirtual 39, 3), (6, .ifCond .ne 12, 3), (9, .aload_n 0, 1), (10, .ldc 47, 2), (12, .invokevirtual 39, 3), (15, .ifCond .eq 7, 3), (18, .iconst 1, 1), (19, .goto 4, 3), (22, .iconst 0, 1), (23, .ireturn, 1)]
theorem hD_conn : ∀ q ∈ D_conn, decode prog_113_method_5_code q.1 = .ok q.2 := by decide +kernel
set_option maxRecDepth 65536 in
set_option maxHeartbeats 4000000 in
theorem c_conn (l : Launch) (Z : State) (a0 : Array Value) (hw : ∀ d ∈ tables_1, d.before a0 Z = true) (hEL : EW Z a0 consts_1) (hJS : JS Z) {a : Addr} {cs : List Int32} {h : Heap} (oz : Ext Z.heap h) (F : Str Z h a cs) (hL : IsL cs) : Ctr l Z consts_1 (⟨"com/example/heronbus/heronbus/stomp/Frame", "isConnect", "(Ljava/lang/String;)Z"⟩ : MethodName) prog_113_method_5_code 1 (some .boolean) [] ({ frames := 2, cells := 4, slots := 64, locals := 40 } : Room) [] #[(.ref a)] h (fun v h' S => v = some (.int (if cs = ([67, 79, 78, 78, 69, 67, 84] : List Int32) ∨ cs = ([83, 84, 79, 77, 80] : List Int32) then 1 else 0))) := by
  refine enter (a0 := a0) (by first | (simp [plainName, overriddenIn]; done) | decide +kernel) hEL (Ls := #[.val (.ref a)]) (fun m => by first | (simp [entryFrame, mkF, argsToLocals, Value.category]; done) | rfl) ?_
  intro κ vm T hby hs w Sf
  have dc := Dec.of hby hD_conn
  show Go κ (GQ κ Z consts_1 ({ frames := 2, cells := 4, slots := 64, locals := 40 } : Room) (fun v h' S => v = some (.int (if cs = ([67, 79, 78, 78, 69, 67, 84] : List Int32) ∨ cs = ([83, 84, 79, 77, 80] : List Int32) then 1 else 0)))) T 0 #[.val (.ref a)] []
  have ozs : Ext Z.heap κ.s.heap := by rw [hs]; exact oz
  refine blk (pc' := 1) (Ls' := #[.val (.ref a)]) (st' := [(.ref a)]) [oAloadN w.ok (dc.g 0 rfl)] rfl ?_
  refine w.ldcC (wd hw 76 rfl) (own_str hw) hEL (by decide) (vs := ([67, 79, 78, 78, 69, 67, 84] : List Int32)) (by decide +kernel) (by decide) (dc.g 1 rfl) (c := 28) (by decide) (by decide) (by decide) (by decide) ?_
  intro vm1105 T1106 h1107 a1108 b1109 w1110 E1111 C1112 f1113 f1114 f1115 f1116 f1117
  show Go κ _ T1106 3 #[.val (.ref a)] [(.ref a1108), (.ref a)]
  have FS1118 : Str Z h1107 a1108 ([67, 79, 78, 78, 69, 67, 84] : List Int32) := ⟨b1109, f1113, f1115, (IsL.isC (by unfold IsL; decide)), by decide, Or.inl ⟨by unfold IsL; decide, f1114, f1116⟩⟩
  have G1 := F.ext E1111
  refine w1110.callV (wd hw 77 rfl) (wd hw 78 rfl) (notFace (wd hw 80 rfl)) (wd hw 80 rfl) (wd hw 79 rfl) (by decide) (a := a) G1.exa (argsL := [(.ref a1108)]) (Wd := 0) (Ctr.pays (len := 3) (Wd := 0) (c_eqs l Z a0 hw hEL hJS (w1110.old ozs) G1 FS1118 hL (by unfold IsL; decide)) w1110 (wd hw 81 rfl) (wd hw 1 rfl) hEL (by decide) (by decide) sfNil) pd13 rfl (st := []) rfl rfl (Nat.le_of_eq rfl) (dc.g 2 rfl) (by decide) (by decide) ?_
  intro vm1119 T1120 h1121 v1122 w1123 C1124 Q1125
  obtain ⟨e2, rfl⟩ := Q1125
  subst e2
  show Go κ _ T1120 6 #[.val (.ref a)] [(.int (if cs = ([67, 79, 78, 78, 69, 67, 84] : List Int32) then (1 : Int32) else 0))]
  by_cases hq : cs = ([67, 79, 78, 78, 69, 67, 84] : List Int32)
  · refine Go.top (y := (1 : Int32)) (if_pos hq) ?_
    show Go κ _ T1120 6 #[.val (.ref a)] [(.int (1 : Int32))]
    refine zNe (pc' := 18) w1123.ok (dc.g 3 rfl) (by decide) (by decide) (fun hc1126 => ?_) (fun hc1126 => absurd hc1126 (by decide))
    show Go κ _ T1120 18 #[.val (.ref a)] []
    refine blk (pc' := 23) (Ls' := #[.val (.ref a)]) (st' := [(.int (1 : Int32))]) [oIconst w1123.ok (dc.g 8 rfl), oGoto w1123.ok 23 (dc.g 9 rfl)] rfl ?_
    exact w1123.retI (t := .boolean) rfl (Or.inr (Or.inl rfl)) rfl (dc.g 11 rfl) (by decide) (by decide) (fun S hS => by rw [if_pos (Or.inl hq)])
  · refine Go.top (y := (0 : Int32)) (if_neg hq) ?_
    show Go κ _ T1120 6 #[.val (.ref a)] [(.int (0 : Int32))]
    refine zNe (pc' := 18) w1123.ok (dc.g 3 rfl) (by decide) (by decide) (fun hc1127 => absurd rfl hc1127) (fun hc1127 => ?_)
    show Go κ _ T1120 9 #[.val (.ref a)] []
    refine blk (pc' := 10) (Ls' := #[.val (.ref a)]) (st' := [(.ref a)]) [oAloadN w1123.ok (dc.g 4 rfl)] rfl ?_
    refine w1123.ldcC (wd hw 86 rfl) (own_str hw) hEL (by decide) (vs := ([83, 84, 79, 77, 80] : List Int32)) (by decide +kernel) (by decide) (dc.g 5 rfl) (c := 28) (by decide) (by decide) (by decide) (by decide) ?_
    intro vm1128 T1129 h1130 a1131 b1132 w1133 E1134 C1135 f1136 f1137 f1138 f1139 f1140
    show Go κ _ T1129 12 #[.val (.ref a)] [(.ref a1131), (.ref a)]
    have FS1141 : Str Z h1130 a1131 ([83, 84, 79, 77, 80] : List Int32) := ⟨b1132, f1136, f1138, (IsL.isC (by unfold IsL; decide)), by decide, Or.inl ⟨by unfold IsL; decide, f1137, f1139⟩⟩
    have G2 := G1.ext E1134
    refine w1133.callV (wd hw 77 rfl) (wd hw 78 rfl) (notFace (wd hw 80 rfl)) (wd hw 80 rfl) (wd hw 79 rfl) (by decide) (a := a) G2.exa (argsL := [(.ref a1131)]) (Wd := 0) (Ctr.pays (len := 3) (Wd := 0) (c_eqs l Z a0 hw hEL hJS (w1133.old ozs) G2 FS1141 hL (by unfold IsL; decide)) w1133 (wd hw 81 rfl) (wd hw 1 rfl) hEL (by decide) (by decide) sfNil) pd13 rfl (st := []) rfl rfl (Nat.le_of_eq rfl) (dc.g 6 rfl) (by decide) (by decide) ?_
    intro vm1142 T1143 h1144 v1145 w1146 C1147 Q1148
    obtain ⟨e3, rfl⟩ := Q1148
    subst e3
    show Go κ _ T1143 15 #[.val (.ref a)] [(.int (if cs = ([83, 84, 79, 77, 80] : List Int32) then (1 : Int32) else 0))]
    by_cases hr : cs = ([83, 84, 79, 77, 80] : List Int32)
    · refine Go.top (y := (1 : Int32)) (if_pos hr) ?_
      show Go κ _ T1143 15 #[.val (.ref a)] [(.int (1 : Int32))]
      refine zEq (pc' := 22) w1146.ok (dc.g 7 rfl) (by decide) (by decide) (fun hc1149 => absurd hc1149 (by decide)) (fun hc1149 => ?_)
      show Go κ _ T1143 18 #[.val (.ref a)] []
      refine blk (pc' := 23) (Ls' := #[.val (.ref a)]) (st' := [(.int (1 : Int32))]) [oIconst w1146.ok (dc.g 8 rfl), oGoto w1146.ok 23 (dc.g 9 rfl)] rfl ?_
      exact w1146.retI (t := .boolean) rfl (Or.inr (Or.inl rfl)) rfl (dc.g 11 rfl) (by decide) (by decide) (fun S hS => by rw [if_pos (Or.inr hr)])
    · refine Go.top (y := (0 : Int32)) (if_neg hr) ?_
      show Go κ _ T1143 15 #[.val (.ref a)] [(.int (0 : Int32))]
      refine zEq (pc' := 22) w1146.ok (dc.g 7 rfl) (by decide) (by decide) (fun hc1150 => ?_) (fun hc1150 => absurd rfl hc1150)
      show Go κ _ T1143 22 #[.val (.ref a)] []
      refine blk (pc' := 23) (Ls' := #[.val (.ref a)]) (st' := [(.int (0 : Int32))]) [oIconst w1146.ok (dc.g 10 rfl)] rfl ?_
      exact w1146.retI (t := .boolean) rfl (Or.inr (Or.inl rfl)) rfl (dc.g 11 rfl) (by decide) (by decide) (fun S hS => by rw [if_neg (fun q => q.elim hq hr)])
def D_law : List (Nat × Instr × Nat) := [(0, .iload_n 0, 1), (1, .iconst 1, 1), (2, .iand, 1), (3, .ifCond .ne 8, 3), (6, .ldc 7, 2), (8, .goto 5, 3), (11, .ldc 9, 2), (13, .astore 5, 2), (15, .iload_n 0, 1), (16, .iconst 2, 1), (17, .iand, 1), (18, .ifCond .eq 7, 3), (21, .iconst 1, 1), (22, .goto 4, 3), (25, .iconst 0, 1), (26, .istore 6, 2), (28, .iload_n 1, 1), (29, .bipush 15, 2), (31, .iand, 1), (32, .bipush 9, 2), (34, .irem, 1), (35, .istore 7, 2), (37, .iload_n 2, 1), (38, .bipush 15, 2), (40, .iand, 1), (41, .bipush 9, 2), (43, .irem, 1), (44, .istore 8, 2), (46, .iload_n 3, 1), (47, .sipush 255, 3), (50, .iand, 1), (51, .i2c, 1), (52, .istore 9, 2), (54, .iload 4, 2), (56, .sipush 255, 3), (59, .iand, 1), (60, .i2c, 1), (61, .istore 10, 2), (63, .aload 5, 2), (65, .iconst 0, 1), (66, .iload 8, 2), (68, .iload 6, 2), (70, .iload 9, 2), (72, .iload 10, 2), (74, .invokestatic 11, 3), (77, .istore 11, 2), (79, .aload 5, 2), (81, .iconst 1, 1), (82, .iload 8, 2), (84, .iload 6, 2), (86, .iload 9, 2), (88, .iload 10, 2), (90, .invokestatic 11, 3), (93, .istore 12, 2), (95, .aload 5, 2), (97, .iconst 2, 1), (98, .iload 8, 2), (100, .iload 6, 2), (102, .iload 9, 2), (104, .iload 10, 2), (106, .invokestatic 11, 3), (109, .istore 13, 2), (111, .aload 5, 2), (113, .iconst 3, 1), (114, .iload 8, 2), (116, .iload 6, 2), (118, .iload 9, 2), (120, .iload 10, 2), (122, .invokestatic 11, 3), (125, .istore 14, 2), (127, .aload 5, 2), (129, .iconst 4, 1), (130, .iload 8, 2), (132, .iload 6, 2), (134, .iload 9, 2), (136, .iload 10, 2), (138, .invokestatic 11, 3), (141, .istore 15, 2), (143, .aload 5, 2), (145, .iconst 5, 1), (146, .iload 8, 2), (148, .iload 6, 2), (150, .iload 9, 2), (152, .iload 10, 2), (154, .invokestatic 11, 3), (157, .istore 16, 2), (159, .aload 5, 2), (161, .bipush 6, 2), (163, .iload 8, 2), (165, .iload 6, 2), (167, .iload 9, 2), (169, .iload 10, 2), (171, .invokestatic 11, 3), (174, .istore 17, 2), (176, .aload 5, 2), (178, .bipush 7, 2), (180, .iload 8, 2), (182, .iload 6, 2), (184, .iload 9, 2), (186, .iload 10, 2), (188, .invokestatic 11, 3), (191, .istore 18, 2), (193, .aload 5, 2), (195, .bipush 8, 2), (197, .iload 8, 2), (199, .iload 6, 2), (201, .iload 9, 2), (203, .iload 10, 2), (205, .invokestatic 11, 3), (208, .istore 19, 2), (210, .iload 7, 2), (212, .iload 11, 2), (214, .iload 12, 2), (216, .iload 13, 2), (218, .iload 14, 2), (220, .iload 15, 2), (222, .iload 16, 2), (224, .iload 17, 2), (226, .iload 18, 2), (228, .iload 19, 2), (230, .invokestatic 17, 3), (233, .astore 20, 2), (235, .iload 7, 2), (237, .bipush 7, 2), (239, .if_icmp .ne 56, 3), (242, .iload 11, 2), (244, .bipush 67, 2), (246, .if_icmp .ne 49, 3), (249, .iload 12, 2), (251, .bipush 79, 2), (253, .if_icmp .ne 42, 3), (256, .iload 13, 2), (258, .bipush 78, 2), (260, .if_icmp .ne 35, 3), (263, .iload 14, 2), (265, .bipush 78, 2), (267, .if_icmp .ne 28, 3), (270, .iload 15, 2), (272, .bipush 69, 2), (274, .if_icmp .ne 21, 3), (277, .iload 16, 2), (279, .bipush 67, 2), (281, .if_icmp .ne 14, 3), (284, .iload 17, 2), (286, .bipush 84, 2), (288, .if_icmp .ne 7, 3), (291, .iconst 1, 1), (292, .goto 4, 3), (295, .iconst 0, 1), (296, .istore 21, 2), (298, .iload 7, 2), (300, .iconst 5, 1), (301, .if_icmp .ne 42, 3), (304, .iload 11, 2), (306, .bipush 83, 2), (308, .if_icmp .ne 35, 3), (311, .iload 12, 2), (313, .bipush 84, 2), (315, .if_icmp .ne 28, 3), (318, .iload 13, 2), (320, .bipush 79, 2), (322, .if_icmp .ne 21, 3), (325, .iload 14, 2), (327, .bipush 77, 2), (329, .if_icmp .ne 14, 3), (332, .iload 15, 2), (334, .bipush 80, 2), (336, .if_icmp .ne 7, 3), (339, .iconst 1, 1), (340, .goto 4, 3), (343, .iconst 0, 1), (344, .istore 22, 2), (346, .iload 21, 2), (348, .ifCond .ne 8, 3), (351, .iload 22, 2), (353, .ifCond .eq 7, 3), (356, .iconst 1, 1), (357, .goto 4, 3), (360, .iconst 0, 1), (361, .istore 23, 2), (363, .aload 20, 2), (365, .invokestatic 21, 3), (368, .iload 23, 2), (370, .if_icmp .ne 7, 3), (373, .iconst 1, 1), (374, .goto 4, 3), (377, .iconst 0, 1), (378, .ireturn, 1)]
theorem hD_law : ∀ q ∈ D_law, decode code q.1 = .ok q.2 := by decide +kernel
set_option maxRecDepth 65536 in
set_option maxHeartbeats 4000000 in
theorem c_law (l : Launch) (Z : State) (a0 : Array Value) (hw : ∀ d ∈ tables_1, d.before a0 Z = true) (hEL : EW Z a0 consts_1) (hJS : JS Z) {p0 p1 p2 p3 p4 : Int32} (h : Heap) (oz : Ext Z.heap h) (ws : List Jvm.Cond) : Ctr l Z consts_1 x code maxLocals ret ws room_1 [] #[(.int p0), (.int p1), (.int p2), (.int p3), (.int p4)] h (fun v h' S => v = some (.int 1)) := by
  refine enter (a0 := a0) (by first | (simp [plainName, overriddenIn]; done) | decide +kernel) hEL (Ls := #[.val (.int p0), .val (.int p1), .val (.int p2), .val (.int p3), .val (.int p4), .unset, .unset, .unset, .unset, .unset, .unset, .unset, .unset, .unset, .unset, .unset, .unset, .unset, .unset, .unset, .unset, .unset, .unset, .unset]) (fun m => by first | (simp [entryFrame, mkF, argsToLocals, Value.category, maxLocals]; done) | rfl) ?_
  intro κ vm T hby hs w Sf
  have dc := Dec.of hby hD_law
  show Go κ (GQ κ Z consts_1 room_1 (fun v h' S => v = some (.int 1))) T 0 #[.val (.int p0), .val (.int p1), .val (.int p2), .val (.int p3), .val (.int p4), .unset, .unset, .unset, .unset, .unset, .unset, .unset, .unset, .unset, .unset, .unset, .unset, .unset, .unset, .unset, .unset, .unset, .unset, .unset] []
  have ozs : Ext Z.heap κ.s.heap := by rw [hs]; exact oz
  suffices k13 : ∀ (vm1 : Vm) (T1 : State) (h1 : Heap) (wd5 : Addr) (wcs : List Int32), W κ l room_1 Z consts_1 "com/example/heronbus/heronbus/stomp/FrameIsConnectPinLaw" "law" maxLocals ret vm1 T1 h1 2 32 → Str Z h1 wd5 wcs → IsL wcs → Go κ (GQ κ Z consts_1 room_1 (fun v h' S => v = some (.int 1))) T1 13 #[.val (.int p0), .val (.int p1), .val (.int p2), .val (.int p3), .val (.int p4), .unset, .unset, .unset, .unset, .unset, .unset, .unset, .unset, .unset, .unset, .unset, .unset, .unset, .unset, .unset, .unset, .unset, .unset, .unset] [(.ref wd5)] by
    refine blk (pc' := 3) (Ls' := #[.val (.int p0), .val (.int p1), .val (.int p2), .val (.int p3), .val (.int p4), .unset, .unset, .unset, .unset, .unset, .unset, .unset, .unset, .unset, .unset, .unset, .unset, .unset, .unset, .unset, .unset, .unset, .unset, .unset]) (st' := [(.int (p0 &&& (1 : Int32)))]) [oIloadN w.ok (dc.g 0 rfl), oIconst w.ok (dc.g 1 rfl), oIand w.ok (dc.g 2 rfl)] rfl ?_
    refine zNe (pc' := 11) w.ok (dc.g 3 rfl) (by decide) (by decide) (fun hc1151 => ?_) (fun hc1151 => ?_)
    · show Go κ _ T 11 #[.val (.int p0), .val (.int p1), .val (.int p2), .val (.int p3), .val (.int p4), .unset, .unset, .unset, .unset, .unset, .unset, .unset, .unset, .unset, .unset, .unset, .unset, .unset, .unset, .unset, .unset, .unset, .unset, .unset] []
      refine w.ldcC (wd hw 87 rfl) (own_str hw) hEL (by decide) (vs := ([83, 84, 79, 77, 80] : List Int32)) (by decide +kernel) (by decide) (dc.g 6 rfl) (c := 28) (by decide) (by decide) (by decide) (by decide) ?_
      intro vm1152 T1153 h1154 a1155 b1156 w1157 E1158 C1159 f1160 f1161 f1162 f1163 f1164
      show Go κ _ T1153 13 #[.val (.int p0), .val (.int p1), .val (.int p2), .val (.int p3), .val (.int p4), .unset, .unset, .unset, .unset, .unset, .unset, .unset, .unset, .unset, .unset, .unset, .unset, .unset, .unset, .unset, .unset, .unset, .unset, .unset] [(.ref a1155)]
      have FS1165 : Str Z h1154 a1155 ([83, 84, 79, 77, 80] : List Int32) := ⟨b1156, f1160, f1162, (IsL.isC (by unfold IsL; decide)), by decide, Or.inl ⟨by unfold IsL; decide, f1161, f1163⟩⟩
      exact k13 _ _ _ _ _ w1157 FS1165 (by unfold IsL; decide)
    · show Go κ _ T 6 #[.val (.int p0), .val (.int p1), .val (.int p2), .val (.int p3), .val (.int p4), .unset, .unset, .unset, .unset, .unset, .unset, .unset, .unset, .unset, .unset, .unset, .unset, .unset, .unset, .unset, .unset, .unset, .unset, .unset] []
      refine w.ldcC (wd hw 0 rfl) (own_str hw) hEL (by decide) (vs := ([67, 79, 78, 78, 69, 67, 84] : List Int32)) (by decide +kernel) (by decide) (dc.g 4 rfl) (c := 28) (by decide) (by decide) (by decide) (by decide) ?_
      intro vm1166 T1167 h1168 a1169 b1170 w1171 E1172 C1173 f1174 f1175 f1176 f1177 f1178
      show Go κ _ T1167 8 #[.val (.int p0), .val (.int p1), .val (.int p2), .val (.int p3), .val (.int p4), .unset, .unset, .unset, .unset, .unset, .unset, .unset, .unset, .unset, .unset, .unset, .unset, .unset, .unset, .unset, .unset, .unset, .unset, .unset] [(.ref a1169)]
      have FS1179 : Str Z h1168 a1169 ([67, 79, 78, 78, 69, 67, 84] : List Int32) := ⟨b1170, f1174, f1176, (IsL.isC (by unfold IsL; decide)), by decide, Or.inl ⟨by unfold IsL; decide, f1175, f1177⟩⟩
      refine blk (pc' := 13) (Ls' := #[.val (.int p0), .val (.int p1), .val (.int p2), .val (.int p3), .val (.int p4), .unset, .unset, .unset, .unset, .unset, .unset, .unset, .unset, .unset, .unset, .unset, .unset, .unset, .unset, .unset, .unset, .unset, .unset, .unset]) (st' := [(.ref a1169)]) [oGoto w1171.ok 13 (dc.g 5 rfl)] rfl ?_
      exact k13 _ _ _ _ _ w1171 FS1179 (by unfold IsL; decide)
  intro vm1 T1 h1 wd5 wcs w1 FW LW
  show Go κ _ T1 13 #[.val (.int p0), .val (.int p1), .val (.int p2), .val (.int p3), .val (.int p4), .unset, .unset, .unset, .unset, .unset, .unset, .unset, .unset, .unset, .unset, .unset, .unset, .unset, .unset, .unset, .unset, .unset, .unset, .unset] [(.ref wd5)]
  refine blk (pc' := 18) (Ls' := #[.val (.int p0), .val (.int p1), .val (.int p2), .val (.int p3), .val (.int p4), .val (.ref wd5), .unset, .unset, .unset, .unset, .unset, .unset, .unset, .unset, .unset, .unset, .unset, .unset, .unset, .unset, .unset, .unset, .unset, .unset]) (st' := [(.int (p0 &&& (2 : Int32)))]) [oAstore w1.ok (dc.g 7 rfl), oIloadN w1.ok (dc.g 8 rfl), oIconst w1.ok (dc.g 9 rfl), oIand w1.ok (dc.g 10 rfl)] rfl ?_
  suffices k26 : ∀ mu : Int32, Go κ (GQ κ Z consts_1 room_1 (fun v h' S => v = some (.int 1))) T1 26 #[.val (.int p0), .val (.int p1), .val (.int p2), .val (.int p3), .val (.int p4), .val (.ref wd5), .unset, .unset, .unset, .unset, .unset, .unset, .unset, .unset, .unset, .unset, .unset, .unset, .unset, .unset, .unset, .unset, .unset, .unset] [(.int mu)] by
    refine zEq (pc' := 25) w1.ok (dc.g 11 rfl) (by decide) (by decide) (fun hc1180 => ?_) (fun hc1180 => ?_)
    · show Go κ _ T1 25 #[.val (.int p0), .val (.int p1), .val (.int p2), .val (.int p3), .val (.int p4), .val (.ref wd5), .unset, .unset, .unset, .unset, .unset, .unset, .unset, .unset, .unset, .unset, .unset, .unset, .unset, .unset, .unset, .unset, .unset, .unset] []
      refine blk (pc' := 26) (Ls' := #[.val (.int p0), .val (.int p1), .val (.int p2), .val (.int p3), .val (.int p4), .val (.ref wd5), .unset, .unset, .unset, .unset, .unset, .unset, .unset, .unset, .unset, .unset, .unset, .unset, .unset, .unset, .unset, .unset, .unset, .unset]) (st' := [(.int (0 : Int32))]) [oIconst w1.ok (dc.g 14 rfl)] rfl ?_
      exact k26 _
    · show Go κ _ T1 21 #[.val (.int p0), .val (.int p1), .val (.int p2), .val (.int p3), .val (.int p4), .val (.ref wd5), .unset, .unset, .unset, .unset, .unset, .unset, .unset, .unset, .unset, .unset, .unset, .unset, .unset, .unset, .unset, .unset, .unset, .unset] []
      refine blk (pc' := 26) (Ls' := #[.val (.int p0), .val (.int p1), .val (.int p2), .val (.int p3), .val (.int p4), .val (.ref wd5), .unset, .unset, .unset, .unset, .unset, .unset, .unset, .unset, .unset, .unset, .unset, .unset, .unset, .unset, .unset, .unset, .unset, .unset]) (st' := [(.int (1 : Int32))]) [oIconst w1.ok (dc.g 12 rfl), oGoto w1.ok 26 (dc.g 13 rfl)] rfl ?_
      exact k26 _
  intro mu
  show Go κ _ T1 26 #[.val (.int p0), .val (.int p1), .val (.int p2), .val (.int p3), .val (.int p4), .val (.ref wd5), .unset, .unset, .unset, .unset, .unset, .unset, .unset, .unset, .unset, .unset, .unset, .unset, .unset, .unset, .unset, .unset, .unset, .unset] [(.int mu)]
  refine blk (pc' := 37) (Ls' := #[.val (.int p0), .val (.int p1), .val (.int p2), .val (.int p3), .val (.int p4), .val (.ref wd5), .val (.int mu), .val (.int ((p1 &&& (15 : Int32)) % (9 : Int32))), .unset, .unset, .unset, .unset, .unset, .unset, .unset, .unset, .unset, .unset, .unset, .unset, .unset, .unset, .unset, .unset]) (st' := []) [oIstore w1.ok (dc.g 15 rfl), oIloadN w1.ok (dc.g 16 rfl), oBipush w1.ok (dc.g 17 rfl), oIand w1.ok (dc.g 18 rfl), oBipush w1.ok (dc.g 19 rfl), oIrem w1.ok (dc.g 20 rfl), oIstore w1.ok (dc.g 21 rfl)] rfl ?_
  obtain ⟨nn, hnn, enn⟩ := remNat p1 (15 : Int32) (9 : Int32) 9 (by decide) (by decide) (by decide)
  rw [enn]
  show Go κ _ T1 37 #[.val (.int p0), .val (.int p1), .val (.int p2), .val (.int p3), .val (.int p4), .val (.ref wd5), .val (.int mu), .val (.int (Int32.ofNat nn)), .unset, .unset, .unset, .unset, .unset, .unset, .unset, .unset, .unset, .unset, .unset, .unset, .unset, .unset, .unset, .unset] []
  refine blk (pc' := 46) (Ls' := #[.val (.int p0), .val (.int p1), .val (.int p2), .val (.int p3), .val (.int p4), .val (.ref wd5), .val (.int mu), .val (.int (Int32.ofNat nn)), .val (.int ((p2 &&& (15 : Int32)) % (9 : Int32))), .unset, .unset, .unset, .unset, .unset, .unset, .unset, .unset, .unset, .unset, .unset, .unset, .unset, .unset, .unset]) (st' := []) [oIloadN w1.ok (dc.g 22 rfl), oBipush w1.ok (dc.g 23 rfl), oIand w1.ok (dc.g 24 rfl), oBipush w1.ok (dc.g 25 rfl), oIrem w1.ok (dc.g 26 rfl), oIstore w1.ok (dc.g 27 rfl)] rfl ?_
  obtain ⟨pp, hpp, epp⟩ := remNat p2 (15 : Int32) (9 : Int32) 9 (by decide) (by decide) (by decide)
  rw [epp]
  show Go κ _ T1 46 #[.val (.int p0), .val (.int p1), .val (.int p2), .val (.int p3), .val (.int p4), .val (.ref wd5), .val (.int mu), .val (.int (Int32.ofNat nn)), .val (.int (Int32.ofNat pp)), .unset, .unset, .unset, .unset, .unset, .unset, .unset, .unset, .unset, .unset, .unset, .unset, .unset, .unset, .unset] []
  refine blk (pc' := 63) (Ls' := #[.val (.int p0), .val (.int p1), .val (.int p2), .val (.int p3), .val (.int p4), .val (.ref wd5), .val (.int mu), .val (.int (Int32.ofNat nn)), .val (.int (Int32.ofNat pp)), .val (.int (((p3 &&& (255 : Int32))).toUInt32.toUInt16.toUInt32.toInt32)), .val (.int (((p4 &&& (255 : Int32))).toUInt32.toUInt16.toUInt32.toInt32)), .unset, .unset, .unset, .unset, .unset, .unset, .unset, .unset, .unset, .unset, .unset, .unset, .unset]) (st' := []) [oIloadN w1.ok (dc.g 28 rfl), oSipush w1.ok (dc.g 29 rfl), oIand w1.ok (dc.g 30 rfl), oI2c w1.ok (dc.g 31 rfl), oIstore w1.ok (dc.g 32 rfl), oIload w1.ok (dc.g 33 rfl), oSipush w1.ok (dc.g 34 rfl), oIand w1.ok (dc.g 35 rfl), oI2c w1.ok (dc.g 36 rfl), oIstore w1.ok (dc.g 37 rfl)] rfl ?_
  have bmm := and255 p3
  generalize (((p3 &&& (255 : Int32))).toUInt32.toUInt16.toUInt32.toInt32) = mm at bmm ⊢
  show Go κ _ T1 63 #[.val (.int p0), .val (.int p1), .val (.int p2), .val (.int p3), .val (.int p4), .val (.ref wd5), .val (.int mu), .val (.int (Int32.ofNat nn)), .val (.int (Int32.ofNat pp)), .val (.int mm), .val (.int (((p4 &&& (255 : Int32))).toUInt32.toUInt16.toUInt32.toInt32)), .unset, .unset, .unset, .unset, .unset, .unset, .unset, .unset, .unset, .unset, .unset, .unset, .unset] []
  have bff := and255 p4
  generalize (((p4 &&& (255 : Int32))).toUInt32.toUInt16.toUInt32.toInt32) = ff at bff ⊢
  show Go κ _ T1 63 #[.val (.int p0), .val (.int p1), .val (.int p2), .val (.int p3), .val (.int p4), .val (.ref wd5), .val (.int mu), .val (.int (Int32.ofNat nn)), .val (.int (Int32.ofNat pp)), .val (.int mm), .val (.int ff), .unset, .unset, .unset, .unset, .unset, .unset, .unset, .unset, .unset, .unset, .unset, .unset, .unset] []
  refine blk (pc' := 74) (Ls' := #[.val (.int p0), .val (.int p1), .val (.int p2), .val (.int p3), .val (.int p4), .val (.ref wd5), .val (.int mu), .val (.int (Int32.ofNat nn)), .val (.int (Int32.ofNat pp)), .val (.int mm), .val (.int ff), .unset, .unset, .unset, .unset, .unset, .unset, .unset, .unset, .unset, .unset, .unset, .unset, .unset]) (st' := [(.int ff), (.int mm), (.int mu), (.int (Int32.ofNat pp)), (.int (0 : Int32)), (.ref wd5)]) [oAload w1.ok (dc.g 38 rfl), oIconst w1.ok (dc.g 39 rfl), oIload w1.ok (dc.g 40 rfl), oIload w1.ok (dc.g 41 rfl), oIload w1.ok (dc.g 42 rfl), oIload w1.ok (dc.g 43 rfl)] rfl ?_
  refine w1.callS (wd hw 8 rfl) (wd hw 9 rfl) (wd hw 10 rfl) (wd hw 11 rfl) (by decide) (argsL := [(.ref wd5), (.int (0 : Int32)), (.int (Int32.ofNat pp)), (.int mu), (.int mm), (.int ff)]) (Wd := 0) (Ctr.pays (len := 3) (Wd := 0) (c_pick l Z a0 hw hEL hJS (i := 0) (p := pp) (w1.old ozs) FW LW (by decide) bmm bff) w1 (wd hw 11 rfl) (wd hw 10 rfl) hEL (by decide) (by decide) sfNil) pd14 rfl (st := []) rfl rfl (Nat.le_of_eq rfl) (dc.g 44 rfl) (by decide) (by decide) ?_
  intro vm1181 T1182 h1183 v1184 w1185 C1186 Q1187
  obtain ⟨e00, d0, rfl, bd0⟩ := Q1187
  subst e00
  show Go κ _ T1182 77 #[.val (.int p0), .val (.int p1), .val (.int p2), .val (.int p3), .val (.int p4), .val (.ref wd5), .val (.int mu), .val (.int (Int32.ofNat nn)), .val (.int (Int32.ofNat pp)), .val (.int mm), .val (.int ff), .unset, .unset, .unset, .unset, .unset, .unset, .unset, .unset, .unset, .unset, .unset, .unset, .unset] [(.int d0)]
  refine blk (pc' := 90) (Ls' := #[.val (.int p0), .val (.int p1), .val (.int p2), .val (.int p3), .val (.int p4), .val (.ref wd5), .val (.int mu), .val (.int (Int32.ofNat nn)), .val (.int (Int32.ofNat pp)), .val (.int mm), .val (.int ff), .val (.int d0), .unset, .unset, .unset, .unset, .unset, .unset, .unset, .unset, .unset, .unset, .unset, .unset]) (st' := [(.int ff), (.int mm), (.int mu), (.int (Int32.ofNat pp)), (.int (1 : Int32)), (.ref wd5)]) [oIstore w1185.ok (dc.g 45 rfl), oAload w1185.ok (dc.g 46 rfl), oIconst w1185.ok (dc.g 47 rfl), oIload w1185.ok (dc.g 48 rfl), oIload w1185.ok (dc.g 49 rfl), oIload w1185.ok (dc.g 50 rfl), oIload w1185.ok (dc.g 51 rfl)] rfl ?_
  refine w1185.callS (wd hw 8 rfl) (wd hw 9 rfl) (wd hw 10 rfl) (wd hw 11 rfl) (by decide) (argsL := [(.ref wd5), (.int (1 : Int32)), (.int (Int32.ofNat pp)), (.int mu), (.int mm), (.int ff)]) (Wd := 0) (Ctr.pays (len := 3) (Wd := 0) (c_pick l Z a0 hw hEL hJS (i := 1) (p := pp) (w1185.old ozs) FW LW (by decide) bmm bff) w1185 (wd hw 11 rfl) (wd hw 10 rfl) hEL (by decide) (by decide) sfNil) pd14 rfl (st := []) rfl rfl (Nat.le_of_eq rfl) (dc.g 52 rfl) (by decide) (by decide) ?_
  intro vm1188 T1189 h1190 v1191 w1192 C1193 Q1194
  obtain ⟨e10, d1, rfl, bd1⟩ := Q1194
  subst e10
  show Go κ _ T1189 93 #[.val (.int p0), .val (.int p1), .val (.int p2), .val (.int p3), .val (.int p4), .val (.ref wd5), .val (.int mu), .val (.int (Int32.ofNat nn)), .val (.int (Int32.ofNat pp)), .val (.int mm), .val (.int ff), .val (.int d0), .unset, .unset, .unset, .unset, .unset, .unset, .unset, .unset, .unset, .unset, .unset, .unset] [(.int d1)]
  refine blk (pc' := 106) (Ls' := #[.val (.int p0), .val (.int p1), .val (.int p2), .val (.int p3), .val (.int p4), .val (.ref wd5), .val (.int mu), .val (.int (Int32.ofNat nn)), .val (.int (Int32.ofNat pp)), .val (.int mm), .val (.int ff), .val (.int d0), .val (.int d1), .unset, .unset, .unset, .unset, .unset, .unset, .unset, .unset, .unset, .unset, .unset]) (st' := [(.int ff), (.int mm), (.int mu), (.int (Int32.ofNat pp)), (.int (2 : Int32)), (.ref wd5)]) [oIstore w1192.ok (dc.g 53 rfl), oAload w1192.ok (dc.g 54 rfl), oIconst w1192.ok (dc.g 55 rfl), oIload w1192.ok (dc.g 56 rfl), oIload w1192.ok (dc.g 57 rfl), oIload w1192.ok (dc.g 58 rfl), oIload w1192.ok (dc.g 59 rfl)] rfl ?_
  refine w1192.callS (wd hw 8 rfl) (wd hw 9 rfl) (wd hw 10 rfl) (wd hw 11 rfl) (by decide) (argsL := [(.ref wd5), (.int (2 : Int32)), (.int (Int32.ofNat pp)), (.int mu), (.int mm), (.int ff)]) (Wd := 0) (Ctr.pays (len := 3) (Wd := 0) (c_pick l Z a0 hw hEL hJS (i := 2) (p := pp) (w1192.old ozs) FW LW (by decide) bmm bff) w1192 (wd hw 11 rfl) (wd hw 10 rfl) hEL (by decide) (by decide) sfNil) pd14 rfl (st := []) rfl rfl (Nat.le_of_eq rfl) (dc.g 60 rfl) (by decide) (by decide) ?_
  intro vm1195 T1196 h1197 v1198 w1199 C1200 Q1201
  obtain ⟨e20, d2, rfl, bd2⟩ := Q1201
  subst e20
  show Go κ _ T1196 109 #[.val (.int p0), .val (.int p1), .val (.int p2), .val (.int p3), .val (.int p4), .val (.ref wd5), .val (.int mu), .val (.int (Int32.ofNat nn)), .val (.int (Int32.ofNat pp)), .val (.int mm), .val (.int ff), .val (.int d0), .val (.int d1), .unset, .unset, .unset, .unset, .unset, .unset, .unset, .unset, .unset, .unset, .unset] [(.int d2)]
  refine blk (pc' := 122) (Ls' := #[.val (.int p0), .val (.int p1), .val (.int p2), .val (.int p3), .val (.int p4), .val (.ref wd5), .val (.int mu), .val (.int (Int32.ofNat nn)), .val (.int (Int32.ofNat pp)), .val (.int mm), .val (.int ff), .val (.int d0), .val (.int d1), .val (.int d2), .unset, .unset, .unset, .unset, .unset, .unset, .unset, .unset, .unset, .unset]) (st' := [(.int ff), (.int mm), (.int mu), (.int (Int32.ofNat pp)), (.int (3 : Int32)), (.ref wd5)]) [oIstore w1199.ok (dc.g 61 rfl), oAload w1199.ok (dc.g 62 rfl), oIconst w1199.ok (dc.g 63 rfl), oIload w1199.ok (dc.g 64 rfl), oIload w1199.ok (dc.g 65 rfl), oIload w1199.ok (dc.g 66 rfl), oIload w1199.ok (dc.g 67 rfl)] rfl ?_
  refine w1199.callS (wd hw 8 rfl) (wd hw 9 rfl) (wd hw 10 rfl) (wd hw 11 rfl) (by decide) (argsL := [(.ref wd5), (.int (3 : Int32)), (.int (Int32.ofNat pp)), (.int mu), (.int mm), (.int ff)]) (Wd := 0) (Ctr.pays (len := 3) (Wd := 0) (c_pick l Z a0 hw hEL hJS (i := 3) (p := pp) (w1199.old ozs) FW LW (by decide) bmm bff) w1199 (wd hw 11 rfl) (wd hw 10 rfl) hEL (by decide) (by decide) sfNil) pd14 rfl (st := []) rfl rfl (Nat.le_of_eq rfl) (dc.g 68 rfl) (by decide) (by decide) ?_
  intro vm1202 T1203 h1204 v1205 w1206 C1207 Q1208
  obtain ⟨e30, d3, rfl, bd3⟩ := Q1208
  subst e30
  show Go κ _ T1203 125 #[.val (.int p0), .val (.int p1), .val (.int p2), .val (.int p3), .val (.int p4), .val (.ref wd5), .val (.int mu), .val (.int (Int32.ofNat nn)), .val (.int (Int32.ofNat pp)), .val (.int mm), .val (.int ff), .val (.int d0), .val (.int d1), .val (.int d2), .unset, .unset, .unset, .unset, .unset, .unset, .unset, .unset, .unset, .unset] [(.int d3)]
  refine blk (pc' := 138) (Ls' := #[.val (.int p0), .val (.int p1), .val (.int p2), .val (.int p3), .val (.int p4), .val (.ref wd5), .val (.int mu), .val (.int (Int32.ofNat nn)), .val (.int (Int32.ofNat pp)), .val (.int mm), .val (.int ff), .val (.int d0), .val (.int d1), .val (.int d2), .val (.int d3), .unset, .unset, .unset, .unset, .unset, .unset, .unset, .unset, .unset]) (st' := [(.int ff), (.int mm), (.int mu), (.int (Int32.ofNat pp)), (.int (4 : Int32)), (.ref wd5)]) [oIstore w1206.ok (dc.g 69 rfl), oAload w1206.ok (dc.g 70 rfl), oIconst w1206.ok (dc.g 71 rfl), oIload w1206.ok (dc.g 72 rfl), oIload w1206.ok (dc.g 73 rfl), oIload w1206.ok (dc.g 74 rfl), oIload w1206.ok (dc.g 75 rfl)] rfl ?_
  refine w1206.callS (wd hw 8 rfl) (wd hw 9 rfl) (wd hw 10 rfl) (wd hw 11 rfl) (by decide) (argsL := [(.ref wd5), (.int (4 : Int32)), (.int (Int32.ofNat pp)), (.int mu), (.int mm), (.int ff)]) (Wd := 0) (Ctr.pays (len := 3) (Wd := 0) (c_pick l Z a0 hw hEL hJS (i := 4) (p := pp) (w1206.old ozs) FW LW (by decide) bmm bff) w1206 (wd hw 11 rfl) (wd hw 10 rfl) hEL (by decide) (by decide) sfNil) pd14 rfl (st := []) rfl rfl (Nat.le_of_eq rfl) (dc.g 76 rfl) (by decide) (by decide) ?_
  intro vm1209 T1210 h1211 v1212 w1213 C1214 Q1215
  obtain ⟨e40, d4, rfl, bd4⟩ := Q1215
  subst e40
  show Go κ _ T1210 141 #[.val (.int p0), .val (.int p1), .val (.int p2), .val (.int p3), .val (.int p4), .val (.ref wd5), .val (.int mu), .val (.int (Int32.ofNat nn)), .val (.int (Int32.ofNat pp)), .val (.int mm), .val (.int ff), .val (.int d0), .val (.int d1), .val (.int d2), .val (.int d3), .unset, .unset, .unset, .unset, .unset, .unset, .unset, .unset, .unset] [(.int d4)]
  refine blk (pc' := 154) (Ls' := #[.val (.int p0), .val (.int p1), .val (.int p2), .val (.int p3), .val (.int p4), .val (.ref wd5), .val (.int mu), .val (.int (Int32.ofNat nn)), .val (.int (Int32.ofNat pp)), .val (.int mm), .val (.int ff), .val (.int d0), .val (.int d1), .val (.int d2), .val (.int d3), .val (.int d4), .unset, .unset, .unset, .unset, .unset, .unset, .unset, .unset]) (st' := [(.int ff), (.int mm), (.int mu), (.int (Int32.ofNat pp)), (.int (5 : Int32)), (.ref wd5)]) [oIstore w1213.ok (dc.g 77 rfl), oAload w1213.ok (dc.g 78 rfl), oIconst w1213.ok (dc.g 79 rfl), oIload w1213.ok (dc.g 80 rfl), oIload w1213.ok (dc.g 81 rfl), oIload w1213.ok (dc.g 82 rfl), oIload w1213.ok (dc.g 83 rfl)] rfl ?_
  refine w1213.callS (wd hw 8 rfl) (wd hw 9 rfl) (wd hw 10 rfl) (wd hw 11 rfl) (by decide) (argsL := [(.ref wd5), (.int (5 : Int32)), (.int (Int32.ofNat pp)), (.int mu), (.int mm), (.int ff)]) (Wd := 0) (Ctr.pays (len := 3) (Wd := 0) (c_pick l Z a0 hw hEL hJS (i := 5) (p := pp) (w1213.old ozs) FW LW (by decide) bmm bff) w1213 (wd hw 11 rfl) (wd hw 10 rfl) hEL (by decide) (by decide) sfNil) pd14 rfl (st := []) rfl rfl (Nat.le_of_eq rfl) (dc.g 84 rfl) (by decide) (by decide) ?_
  intro vm1216 T1217 h1218 v1219 w1220 C1221 Q1222
  obtain ⟨e50, d5, rfl, bd5⟩ := Q1222
  subst e50
  show Go κ _ T1217 157 #[.val (.int p0), .val (.int p1), .val (.int p2), .val (.int p3), .val (.int p4), .val (.ref wd5), .val (.int mu), .val (.int (Int32.ofNat nn)), .val (.int (Int32.ofNat pp)), .val (.int mm), .val (.int ff), .val (.int d0), .val (.int d1), .val (.int d2), .val (.int d3), .val (.int d4), .unset, .unset, .unset, .unset, .unset, .unset, .unset, .unset] [(.int d5)]
  refine blk (pc' := 171) (Ls' := #[.val (.int p0), .val (.int p1), .val (.int p2), .val (.int p3), .val (.int p4), .val (.ref wd5), .val (.int mu), .val (.int (Int32.ofNat nn)), .val (.int (Int32.ofNat pp)), .val (.int mm), .val (.int ff), .val (.int d0), .val (.int d1), .val (.int d2), .val (.int d3), .val (.int d4), .val (.int d5), .unset, .unset, .unset, .unset, .unset, .unset, .unset]) (st' := [(.int ff), (.int mm), (.int mu), (.int (Int32.ofNat pp)), (.int (6 : Int32)), (.ref wd5)]) [oIstore w1220.ok (dc.g 85 rfl), oAload w1220.ok (dc.g 86 rfl), oBipush w1220.ok (dc.g 87 rfl), oIload w1220.ok (dc.g 88 rfl), oIload w1220.ok (dc.g 89 rfl), oIload w1220.ok (dc.g 90 rfl), oIload w1220.ok (dc.g 91 rfl)] rfl ?_
  refine w1220.callS (wd hw 8 rfl) (wd hw 9 rfl) (wd hw 10 rfl) (wd hw 11 rfl) (by decide) (argsL := [(.ref wd5), (.int (6 : Int32)), (.int (Int32.ofNat pp)), (.int mu), (.int mm), (.int ff)]) (Wd := 0) (Ctr.pays (len := 3) (Wd := 0) (c_pick l Z a0 hw hEL hJS (i := 6) (p := pp) (w1220.old ozs) FW LW (by decide) bmm bff) w1220 (wd hw 11 rfl) (wd hw 10 rfl) hEL (by decide) (by decide) sfNil) pd14 rfl (st := []) rfl rfl (Nat.le_of_eq rfl) (dc.g 92 rfl) (by decide) (by decide) ?_
  intro vm1223 T1224 h1225 v1226 w1227 C1228 Q1229
  obtain ⟨e60, d6, rfl, bd6⟩ := Q1229
  subst e60
  show Go κ _ T1224 174 #[.val (.int p0), .val (.int p1), .val (.int p2), .val (.int p3), .val (.int p4), .val (.ref wd5), .val (.int mu), .val (.int (Int32.ofNat nn)), .val (.int (Int32.ofNat pp)), .val (.int mm), .val (.int ff), .val (.int d0), .val (.int d1), .val (.int d2), .val (.int d3), .val (.int d4), .val (.int d5), .unset, .unset, .unset, .unset, .unset, .unset, .unset] [(.int d6)]
  refine blk (pc' := 188) (Ls' := #[.val (.int p0), .val (.int p1), .val (.int p2), .val (.int p3), .val (.int p4), .val (.ref wd5), .val (.int mu), .val (.int (Int32.ofNat nn)), .val (.int (Int32.ofNat pp)), .val (.int mm), .val (.int ff), .val (.int d0), .val (.int d1), .val (.int d2), .val (.int d3), .val (.int d4), .val (.int d5), .val (.int d6), .unset, .unset, .unset, .unset, .unset, .unset]) (st' := [(.int ff), (.int mm), (.int mu), (.int (Int32.ofNat pp)), (.int (7 : Int32)), (.ref wd5)]) [oIstore w1227.ok (dc.g 93 rfl), oAload w1227.ok (dc.g 94 rfl), oBipush w1227.ok (dc.g 95 rfl), oIload w1227.ok (dc.g 96 rfl), oIload w1227.ok (dc.g 97 rfl), oIload w1227.ok (dc.g 98 rfl), oIload w1227.ok (dc.g 99 rfl)] rfl ?_
  refine w1227.callS (wd hw 8 rfl) (wd hw 9 rfl) (wd hw 10 rfl) (wd hw 11 rfl) (by decide) (argsL := [(.ref wd5), (.int (7 : Int32)), (.int (Int32.ofNat pp)), (.int mu), (.int mm), (.int ff)]) (Wd := 0) (Ctr.pays (len := 3) (Wd := 0) (c_pick l Z a0 hw hEL hJS (i := 7) (p := pp) (w1227.old ozs) FW LW (by decide) bmm bff) w1227 (wd hw 11 rfl) (wd hw 10 rfl) hEL (by decide) (by decide) sfNil) pd14 rfl (st := []) rfl rfl (Nat.le_of_eq rfl) (dc.g 100 rfl) (by decide) (by decide) ?_
  intro vm1230 T1231 h1232 v1233 w1234 C1235 Q1236
  obtain ⟨e70, d7, rfl, bd7⟩ := Q1236
  subst e70
  show Go κ _ T1231 191 #[.val (.int p0), .val (.int p1), .val (.int p2), .val (.int p3), .val (.int p4), .val (.ref wd5), .val (.int mu), .val (.int (Int32.ofNat nn)), .val (.int (Int32.ofNat pp)), .val (.int mm), .val (.int ff), .val (.int d0), .val (.int d1), .val (.int d2), .val (.int d3), .val (.int d4), .val (.int d5), .val (.int d6), .unset, .unset, .unset, .unset, .unset, .unset] [(.int d7)]
  refine blk (pc' := 205) (Ls' := #[.val (.int p0), .val (.int p1), .val (.int p2), .val (.int p3), .val (.int p4), .val (.ref wd5), .val (.int mu), .val (.int (Int32.ofNat nn)), .val (.int (Int32.ofNat pp)), .val (.int mm), .val (.int ff), .val (.int d0), .val (.int d1), .val (.int d2), .val (.int d3), .val (.int d4), .val (.int d5), .val (.int d6), .val (.int d7), .unset, .unset, .unset, .unset, .unset]) (st' := [(.int ff), (.int mm), (.int mu), (.int (Int32.ofNat pp)), (.int (8 : Int32)), (.ref wd5)]) [oIstore w1234.ok (dc.g 101 rfl), oAload w1234.ok (dc.g 102 rfl), oBipush w1234.ok (dc.g 103 rfl), oIload w1234.ok (dc.g 104 rfl), oIload w1234.ok (dc.g 105 rfl), oIload w1234.ok (dc.g 106 rfl), oIload w1234.ok (dc.g 107 rfl)] rfl ?_
  refine w1234.callS (wd hw 8 rfl) (wd hw 9 rfl) (wd hw 10 rfl) (wd hw 11 rfl) (by decide) (argsL := [(.ref wd5), (.int (8 : Int32)), (.int (Int32.ofNat pp)), (.int mu), (.int mm), (.int ff)]) (Wd := 0) (Ctr.pays (len := 3) (Wd := 0) (c_pick l Z a0 hw hEL hJS (i := 8) (p := pp) (w1234.old ozs) FW LW (by decide) bmm bff) w1234 (wd hw 11 rfl) (wd hw 10 rfl) hEL (by decide) (by decide) sfNil) pd14 rfl (st := []) rfl rfl (Nat.le_of_eq rfl) (dc.g 108 rfl) (by decide) (by decide) ?_
  intro vm1237 T1238 h1239 v1240 w1241 C1242 Q1243
  obtain ⟨e80, d8, rfl, bd8⟩ := Q1243
  subst e80
  show Go κ _ T1238 208 #[.val (.int p0), .val (.int p1), .val (.int p2), .val (.int p3), .val (.int p4), .val (.ref wd5), .val (.int mu), .val (.int (Int32.ofNat nn)), .val (.int (Int32.ofNat pp)), .val (.int mm), .val (.int ff), .val (.int d0), .val (.int d1), .val (.int d2), .val (.int d3), .val (.int d4), .val (.int d5), .val (.int d6), .val (.int d7), .unset, .unset, .unset, .unset, .unset] [(.int d8)]
  have LD : IsL ([d0, d1, d2, d3, d4, d5, d6, d7, d8] : List Int32) := fun c hc => by simp at hc; rcases hc with rfl | rfl | rfl | rfl | rfl | rfl | rfl | rfl | rfl <;> first | exact bd0 | exact bd1 | exact bd2 | exact bd3 | exact bd4 | exact bd5 | exact bd6 | exact bd7 | exact bd8
  refine blk (pc' := 230) (Ls' := #[.val (.int p0), .val (.int p1), .val (.int p2), .val (.int p3), .val (.int p4), .val (.ref wd5), .val (.int mu), .val (.int (Int32.ofNat nn)), .val (.int (Int32.ofNat pp)), .val (.int mm), .val (.int ff), .val (.int d0), .val (.int d1), .val (.int d2), .val (.int d3), .val (.int d4), .val (.int d5), .val (.int d6), .val (.int d7), .val (.int d8), .unset, .unset, .unset, .unset]) (st' := [(.int d8), (.int d7), (.int d6), (.int d5), (.int d4), (.int d3), (.int d2), (.int d1), (.int d0), (.int (Int32.ofNat nn))]) [oIstore w1241.ok (dc.g 109 rfl), oIload w1241.ok (dc.g 110 rfl), oIload w1241.ok (dc.g 111 rfl), oIload w1241.ok (dc.g 112 rfl), oIload w1241.ok (dc.g 113 rfl), oIload w1241.ok (dc.g 114 rfl), oIload w1241.ok (dc.g 115 rfl), oIload w1241.ok (dc.g 116 rfl), oIload w1241.ok (dc.g 117 rfl), oIload w1241.ok (dc.g 118 rfl), oIload w1241.ok (dc.g 119 rfl)] rfl ?_
  refine w1241.callS (wd hw 47 rfl) (wd hw 48 rfl) (wd hw 10 rfl) (wd hw 49 rfl) (by decide) (argsL := [(.int (Int32.ofNat nn)), (.int d0), (.int d1), (.int d2), (.int d3), (.int d4), (.int d5), (.int d6), (.int d7), (.int d8)]) (Wd := 0) (Ctr.pays (len := 3) (Wd := 0) (c_make l Z a0 hw hEL hJS (w1241.old ozs) (by omega) LD) w1241 (wd hw 49 rfl) (wd hw 10 rfl) hEL (by decide) (by decide) sfNil) pd15 rfl (st := []) rfl rfl (Nat.le_of_eq rfl) (dc.g 120 rfl) (by decide) (by decide) ?_
  intro vm1244 T1245 h1246 v1247 w1248 C1249 Q1250
  obtain ⟨K2, y2, rfl, F2⟩ := Q1250
  show Go κ _ T1245 233 #[.val (.int p0), .val (.int p1), .val (.int p2), .val (.int p3), .val (.int p4), .val (.ref wd5), .val (.int mu), .val (.int (Int32.ofNat nn)), .val (.int (Int32.ofNat pp)), .val (.int mm), .val (.int ff), .val (.int d0), .val (.int d1), .val (.int d2), .val (.int d3), .val (.int d4), .val (.int d5), .val (.int d6), .val (.int d7), .val (.int d8), .unset, .unset, .unset, .unset] [(.ref y2)]
  refine blk (pc' := 235) (Ls' := #[.val (.int p0), .val (.int p1), .val (.int p2), .val (.int p3), .val (.int p4), .val (.ref wd5), .val (.int mu), .val (.int (Int32.ofNat nn)), .val (.int (Int32.ofNat pp)), .val (.int mm), .val (.int ff), .val (.int d0), .val (.int d1), .val (.int d2), .val (.int d3), .val (.int d4), .val (.int d5), .val (.int d6), .val (.int d7), .val (.int d8), .val (.ref y2), .unset, .unset, .unset]) (st' := []) [oAstore w1248.ok (dc.g 121 rfl)] rfl ?_
  suffices k296 : ∀ r21 : Int32, r21 = (if nn = 7 ∧ d0 = 67 ∧ d1 = 79 ∧ d2 = 78 ∧ d3 = 78 ∧ d4 = 69 ∧ d5 = 67 ∧ d6 = 84 then 1 else 0) → Go κ (GQ κ Z consts_1 room_1 (fun v h' S => v = some (.int 1))) T1245 296 #[.val (.int p0), .val (.int p1), .val (.int p2), .val (.int p3), .val (.int p4), .val (.ref wd5), .val (.int mu), .val (.int (Int32.ofNat nn)), .val (.int (Int32.ofNat pp)), .val (.int mm), .val (.int ff), .val (.int d0), .val (.int d1), .val (.int d2), .val (.int d3), .val (.int d4), .val (.int d5), .val (.int d6), .val (.int d7), .val (.int d8), .val (.ref y2), .unset, .unset, .unset] [(.int r21)] by
    refine blk (pc' := 239) (Ls' := #[.val (.int p0), .val (.int p1), .val (.int p2), .val (.int p3), .val (.int p4), .val (.ref wd5), .val (.int mu), .val (.int (Int32.ofNat nn)), .val (.int (Int32.ofNat pp)), .val (.int mm), .val (.int ff), .val (.int d0), .val (.int d1), .val (.int d2), .val (.int d3), .val (.int d4), .val (.int d5), .val (.int d6), .val (.int d7), .val (.int d8), .val (.ref y2), .unset, .unset, .unset]) (st' := [(.int (7 : Int32)), (.int (Int32.ofNat nn))]) [oIload w1248.ok (dc.g 122 rfl), oBipush w1248.ok (dc.g 123 rfl)] rfl ?_
    refine cNe (pc' := 295) w1248.ok (dc.g 124 rfl) (by decide) (by decide) (fun hc1251 => ?_) (fun hc1251 => ?_)
    · show Go κ _ T1245 295 #[.val (.int p0), .val (.int p1), .val (.int p2), .val (.int p3), .val (.int p4), .val (.ref wd5), .val (.int mu), .val (.int (Int32.ofNat nn)), .val (.int (Int32.ofNat pp)), .val (.int mm), .val (.int ff), .val (.int d0), .val (.int d1), .val (.int d2), .val (.int d3), .val (.int d4), .val (.int d5), .val (.int d6), .val (.int d7), .val (.int d8), .val (.ref y2), .unset, .unset, .unset] []
      refine blk (pc' := 296) (Ls' := #[.val (.int p0), .val (.int p1), .val (.int p2), .val (.int p3), .val (.int p4), .val (.ref wd5), .val (.int mu), .val (.int (Int32.ofNat nn)), .val (.int (Int32.ofNat pp)), .val (.int mm), .val (.int ff), .val (.int d0), .val (.int d1), .val (.int d2), .val (.int d3), .val (.int d4), .val (.int d5), .val (.int d6), .val (.int d7), .val (.int d8), .val (.ref y2), .unset, .unset, .unset]) (st' := [(.int (0 : Int32))]) [oIconst w1248.ok (dc.g 148 rfl)] rfl ?_
      exact k296 _ (by rw [if_neg (fun q => (fun t => hc1251 (by rw [t]; rfl)) q.1)])
    · show Go κ _ T1245 242 #[.val (.int p0), .val (.int p1), .val (.int p2), .val (.int p3), .val (.int p4), .val (.ref wd5), .val (.int mu), .val (.int (Int32.ofNat nn)), .val (.int (Int32.ofNat pp)), .val (.int mm), .val (.int ff), .val (.int d0), .val (.int d1), .val (.int d2), .val (.int d3), .val (.int d4), .val (.int d5), .val (.int d6), .val (.int d7), .val (.int d8), .val (.ref y2), .unset, .unset, .unset] []
      have hn1252 : nn = 7 := by have := hc1251; rw [show (7 : Int32) = Int32.ofNat 7 from rfl, ofNat_inj (by omega) (by decide)] at this; exact this
      refine blk (pc' := 246) (Ls' := #[.val (.int p0), .val (.int p1), .val (.int p2), .val (.int p3), .val (.int p4), .val (.ref wd5), .val (.int mu), .val (.int (Int32.ofNat nn)), .val (.int (Int32.ofNat pp)), .val (.int mm), .val (.int ff), .val (.int d0), .val (.int d1), .val (.int d2), .val (.int d3), .val (.int d4), .val (.int d5), .val (.int d6), .val (.int d7), .val (.int d8), .val (.ref y2), .unset, .unset, .unset]) (st' := [(.int (67 : Int32)), (.int d0)]) [oIload w1248.ok (dc.g 125 rfl), oBipush w1248.ok (dc.g 126 rfl)] rfl ?_
      refine cNe (pc' := 295) w1248.ok (dc.g 127 rfl) (by decide) (by decide) (fun hc1253 => ?_) (fun hc1253 => ?_)
      · show Go κ _ T1245 295 #[.val (.int p0), .val (.int p1), .val (.int p2), .val (.int p3), .val (.int p4), .val (.ref wd5), .val (.int mu), .val (.int (Int32.ofNat nn)), .val (.int (Int32.ofNat pp)), .val (.int mm), .val (.int ff), .val (.int d0), .val (.int d1), .val (.int d2), .val (.int d3), .val (.int d4), .val (.int d5), .val (.int d6), .val (.int d7), .val (.int d8), .val (.ref y2), .unset, .unset, .unset] []
        refine blk (pc' := 296) (Ls' := #[.val (.int p0), .val (.int p1), .val (.int p2), .val (.int p3), .val (.int p4), .val (.ref wd5), .val (.int mu), .val (.int (Int32.ofNat nn)), .val (.int (Int32.ofNat pp)), .val (.int mm), .val (.int ff), .val (.int d0), .val (.int d1), .val (.int d2), .val (.int d3), .val (.int d4), .val (.int d5), .val (.int d6), .val (.int d7), .val (.int d8), .val (.ref y2), .unset, .unset, .unset]) (st' := [(.int (0 : Int32))]) [oIconst w1248.ok (dc.g 148 rfl)] rfl ?_
        exact k296 _ (by rw [if_neg (fun q => hc1253 q.2.1)])
      · show Go κ _ T1245 249 #[.val (.int p0), .val (.int p1), .val (.int p2), .val (.int p3), .val (.int p4), .val (.ref wd5), .val (.int mu), .val (.int (Int32.ofNat nn)), .val (.int (Int32.ofNat pp)), .val (.int mm), .val (.int ff), .val (.int d0), .val (.int d1), .val (.int d2), .val (.int d3), .val (.int d4), .val (.int d5), .val (.int d6), .val (.int d7), .val (.int d8), .val (.ref y2), .unset, .unset, .unset] []
        refine blk (pc' := 253) (Ls' := #[.val (.int p0), .val (.int p1), .val (.int p2), .val (.int p3), .val (.int p4), .val (.ref wd5), .val (.int mu), .val (.int (Int32.ofNat nn)), .val (.int (Int32.ofNat pp)), .val (.int mm), .val (.int ff), .val (.int d0), .val (.int d1), .val (.int d2), .val (.int d3), .val (.int d4), .val (.int d5), .val (.int d6), .val (.int d7), .val (.int d8), .val (.ref y2), .unset, .unset, .unset]) (st' := [(.int (79 : Int32)), (.int d1)]) [oIload w1248.ok (dc.g 128 rfl), oBipush w1248.ok (dc.g 129 rfl)] rfl ?_
        refine cNe (pc' := 295) w1248.ok (dc.g 130 rfl) (by decide) (by decide) (fun hc1254 => ?_) (fun hc1254 => ?_)
        · show Go κ _ T1245 295 #[.val (.int p0), .val (.int p1), .val (.int p2), .val (.int p3), .val (.int p4), .val (.ref wd5), .val (.int mu), .val (.int (Int32.ofNat nn)), .val (.int (Int32.ofNat pp)), .val (.int mm), .val (.int ff), .val (.int d0), .val (.int d1), .val (.int d2), .val (.int d3), .val (.int d4), .val (.int d5), .val (.int d6), .val (.int d7), .val (.int d8), .val (.ref y2), .unset, .unset, .unset] []
          refine blk (pc' := 296) (Ls' := #[.val (.int p0), .val (.int p1), .val (.int p2), .val (.int p3), .val (.int p4), .val (.ref wd5), .val (.int mu), .val (.int (Int32.ofNat nn)), .val (.int (Int32.ofNat pp)), .val (.int mm), .val (.int ff), .val (.int d0), .val (.int d1), .val (.int d2), .val (.int d3), .val (.int d4), .val (.int d5), .val (.int d6), .val (.int d7), .val (.int d8), .val (.ref y2), .unset, .unset, .unset]) (st' := [(.int (0 : Int32))]) [oIconst w1248.ok (dc.g 148 rfl)] rfl ?_
          exact k296 _ (by rw [if_neg (fun q => hc1254 q.2.2.1)])
        · show Go κ _ T1245 256 #[.val (.int p0), .val (.int p1), .val (.int p2), .val (.int p3), .val (.int p4), .val (.ref wd5), .val (.int mu), .val (.int (Int32.ofNat nn)), .val (.int (Int32.ofNat pp)), .val (.int mm), .val (.int ff), .val (.int d0), .val (.int d1), .val (.int d2), .val (.int d3), .val (.int d4), .val (.int d5), .val (.int d6), .val (.int d7), .val (.int d8), .val (.ref y2), .unset, .unset, .unset] []
          refine blk (pc' := 260) (Ls' := #[.val (.int p0), .val (.int p1), .val (.int p2), .val (.int p3), .val (.int p4), .val (.ref wd5), .val (.int mu), .val (.int (Int32.ofNat nn)), .val (.int (Int32.ofNat pp)), .val (.int mm), .val (.int ff), .val (.int d0), .val (.int d1), .val (.int d2), .val (.int d3), .val (.int d4), .val (.int d5), .val (.int d6), .val (.int d7), .val (.int d8), .val (.ref y2), .unset, .unset, .unset]) (st' := [(.int (78 : Int32)), (.int d2)]) [oIload w1248.ok (dc.g 131 rfl), oBipush w1248.ok (dc.g 132 rfl)] rfl ?_
          refine cNe (pc' := 295) w1248.ok (dc.g 133 rfl) (by decide) (by decide) (fun hc1255 => ?_) (fun hc1255 => ?_)
          · show Go κ _ T1245 295 #[.val (.int p0), .val (.int p1), .val (.int p2), .val (.int p3), .val (.int p4), .val (.ref wd5), .val (.int mu), .val (.int (Int32.ofNat nn)), .val (.int (Int32.ofNat pp)), .val (.int mm), .val (.int ff), .val (.int d0), .val (.int d1), .val (.int d2), .val (.int d3), .val (.int d4), .val (.int d5), .val (.int d6), .val (.int d7), .val (.int d8), .val (.ref y2), .unset, .unset, .unset] []
            refine blk (pc' := 296) (Ls' := #[.val (.int p0), .val (.int p1), .val (.int p2), .val (.int p3), .val (.int p4), .val (.ref wd5), .val (.int mu), .val (.int (Int32.ofNat nn)), .val (.int (Int32.ofNat pp)), .val (.int mm), .val (.int ff), .val (.int d0), .val (.int d1), .val (.int d2), .val (.int d3), .val (.int d4), .val (.int d5), .val (.int d6), .val (.int d7), .val (.int d8), .val (.ref y2), .unset, .unset, .unset]) (st' := [(.int (0 : Int32))]) [oIconst w1248.ok (dc.g 148 rfl)] rfl ?_
            exact k296 _ (by rw [if_neg (fun q => hc1255 q.2.2.2.1)])
          · show Go κ _ T1245 263 #[.val (.int p0), .val (.int p1), .val (.int p2), .val (.int p3), .val (.int p4), .val (.ref wd5), .val (.int mu), .val (.int (Int32.ofNat nn)), .val (.int (Int32.ofNat pp)), .val (.int mm), .val (.int ff), .val (.int d0), .val (.int d1), .val (.int d2), .val (.int d3), .val (.int d4), .val (.int d5), .val (.int d6), .val (.int d7), .val (.int d8), .val (.ref y2), .unset, .unset, .unset] []
            refine blk (pc' := 267) (Ls' := #[.val (.int p0), .val (.int p1), .val (.int p2), .val (.int p3), .val (.int p4), .val (.ref wd5), .val (.int mu), .val (.int (Int32.ofNat nn)), .val (.int (Int32.ofNat pp)), .val (.int mm), .val (.int ff), .val (.int d0), .val (.int d1), .val (.int d2), .val (.int d3), .val (.int d4), .val (.int d5), .val (.int d6), .val (.int d7), .val (.int d8), .val (.ref y2), .unset, .unset, .unset]) (st' := [(.int (78 : Int32)), (.int d3)]) [oIload w1248.ok (dc.g 134 rfl), oBipush w1248.ok (dc.g 135 rfl)] rfl ?_
            refine cNe (pc' := 295) w1248.ok (dc.g 136 rfl) (by decide) (by decide) (fun hc1256 => ?_) (fun hc1256 => ?_)
            · show Go κ _ T1245 295 #[.val (.int p0), .val (.int p1), .val (.int p2), .val (.int p3), .val (.int p4), .val (.ref wd5), .val (.int mu), .val (.int (Int32.ofNat nn)), .val (.int (Int32.ofNat pp)), .val (.int mm), .val (.int ff), .val (.int d0), .val (.int d1), .val (.int d2), .val (.int d3), .val (.int d4), .val (.int d5), .val (.int d6), .val (.int d7), .val (.int d8), .val (.ref y2), .unset, .unset, .unset] []
              refine blk (pc' := 296) (Ls' := #[.val (.int p0), .val (.int p1), .val (.int p2), .val (.int p3), .val (.int p4), .val (.ref wd5), .val (.int mu), .val (.int (Int32.ofNat nn)), .val (.int (Int32.ofNat pp)), .val (.int mm), .val (.int ff), .val (.int d0), .val (.int d1), .val (.int d2), .val (.int d3), .val (.int d4), .val (.int d5), .val (.int d6), .val (.int d7), .val (.int d8), .val (.ref y2), .unset, .unset, .unset]) (st' := [(.int (0 : Int32))]) [oIconst w1248.ok (dc.g 148 rfl)] rfl ?_
              exact k296 _ (by rw [if_neg (fun q => hc1256 q.2.2.2.2.1)])
            · show Go κ _ T1245 270 #[.val (.int p0), .val (.int p1), .val (.int p2), .val (.int p3), .val (.int p4), .val (.ref wd5), .val (.int mu), .val (.int (Int32.ofNat nn)), .val (.int (Int32.ofNat pp)), .val (.int mm), .val (.int ff), .val (.int d0), .val (.int d1), .val (.int d2), .val (.int d3), .val (.int d4), .val (.int d5), .val (.int d6), .val (.int d7), .val (.int d8), .val (.ref y2), .unset, .unset, .unset] []
              refine blk (pc' := 274) (Ls' := #[.val (.int p0), .val (.int p1), .val (.int p2), .val (.int p3), .val (.int p4), .val (.ref wd5), .val (.int mu), .val (.int (Int32.ofNat nn)), .val (.int (Int32.ofNat pp)), .val (.int mm), .val (.int ff), .val (.int d0), .val (.int d1), .val (.int d2), .val (.int d3), .val (.int d4), .val (.int d5), .val (.int d6), .val (.int d7), .val (.int d8), .val (.ref y2), .unset, .unset, .unset]) (st' := [(.int (69 : Int32)), (.int d4)]) [oIload w1248.ok (dc.g 137 rfl), oBipush w1248.ok (dc.g 138 rfl)] rfl ?_
              refine cNe (pc' := 295) w1248.ok (dc.g 139 rfl) (by decide) (by decide) (fun hc1257 => ?_) (fun hc1257 => ?_)
              · show Go κ _ T1245 295 #[.val (.int p0), .val (.int p1), .val (.int p2), .val (.int p3), .val (.int p4), .val (.ref wd5), .val (.int mu), .val (.int (Int32.ofNat nn)), .val (.int (Int32.ofNat pp)), .val (.int mm), .val (.int ff), .val (.int d0), .val (.int d1), .val (.int d2), .val (.int d3), .val (.int d4), .val (.int d5), .val (.int d6), .val (.int d7), .val (.int d8), .val (.ref y2), .unset, .unset, .unset] []
                refine blk (pc' := 296) (Ls' := #[.val (.int p0), .val (.int p1), .val (.int p2), .val (.int p3), .val (.int p4), .val (.ref wd5), .val (.int mu), .val (.int (Int32.ofNat nn)), .val (.int (Int32.ofNat pp)), .val (.int mm), .val (.int ff), .val (.int d0), .val (.int d1), .val (.int d2), .val (.int d3), .val (.int d4), .val (.int d5), .val (.int d6), .val (.int d7), .val (.int d8), .val (.ref y2), .unset, .unset, .unset]) (st' := [(.int (0 : Int32))]) [oIconst w1248.ok (dc.g 148 rfl)] rfl ?_
                exact k296 _ (by rw [if_neg (fun q => hc1257 q.2.2.2.2.2.1)])
              · show Go κ _ T1245 277 #[.val (.int p0), .val (.int p1), .val (.int p2), .val (.int p3), .val (.int p4), .val (.ref wd5), .val (.int mu), .val (.int (Int32.ofNat nn)), .val (.int (Int32.ofNat pp)), .val (.int mm), .val (.int ff), .val (.int d0), .val (.int d1), .val (.int d2), .val (.int d3), .val (.int d4), .val (.int d5), .val (.int d6), .val (.int d7), .val (.int d8), .val (.ref y2), .unset, .unset, .unset] []
                refine blk (pc' := 281) (Ls' := #[.val (.int p0), .val (.int p1), .val (.int p2), .val (.int p3), .val (.int p4), .val (.ref wd5), .val (.int mu), .val (.int (Int32.ofNat nn)), .val (.int (Int32.ofNat pp)), .val (.int mm), .val (.int ff), .val (.int d0), .val (.int d1), .val (.int d2), .val (.int d3), .val (.int d4), .val (.int d5), .val (.int d6), .val (.int d7), .val (.int d8), .val (.ref y2), .unset, .unset, .unset]) (st' := [(.int (67 : Int32)), (.int d5)]) [oIload w1248.ok (dc.g 140 rfl), oBipush w1248.ok (dc.g 141 rfl)] rfl ?_
                refine cNe (pc' := 295) w1248.ok (dc.g 142 rfl) (by decide) (by decide) (fun hc1258 => ?_) (fun hc1258 => ?_)
                · show Go κ _ T1245 295 #[.val (.int p0), .val (.int p1), .val (.int p2), .val (.int p3), .val (.int p4), .val (.ref wd5), .val (.int mu), .val (.int (Int32.ofNat nn)), .val (.int (Int32.ofNat pp)), .val (.int mm), .val (.int ff), .val (.int d0), .val (.int d1), .val (.int d2), .val (.int d3), .val (.int d4), .val (.int d5), .val (.int d6), .val (.int d7), .val (.int d8), .val (.ref y2), .unset, .unset, .unset] []
                  refine blk (pc' := 296) (Ls' := #[.val (.int p0), .val (.int p1), .val (.int p2), .val (.int p3), .val (.int p4), .val (.ref wd5), .val (.int mu), .val (.int (Int32.ofNat nn)), .val (.int (Int32.ofNat pp)), .val (.int mm), .val (.int ff), .val (.int d0), .val (.int d1), .val (.int d2), .val (.int d3), .val (.int d4), .val (.int d5), .val (.int d6), .val (.int d7), .val (.int d8), .val (.ref y2), .unset, .unset, .unset]) (st' := [(.int (0 : Int32))]) [oIconst w1248.ok (dc.g 148 rfl)] rfl ?_
                  exact k296 _ (by rw [if_neg (fun q => hc1258 q.2.2.2.2.2.2.1)])
                · show Go κ _ T1245 284 #[.val (.int p0), .val (.int p1), .val (.int p2), .val (.int p3), .val (.int p4), .val (.ref wd5), .val (.int mu), .val (.int (Int32.ofNat nn)), .val (.int (Int32.ofNat pp)), .val (.int mm), .val (.int ff), .val (.int d0), .val (.int d1), .val (.int d2), .val (.int d3), .val (.int d4), .val (.int d5), .val (.int d6), .val (.int d7), .val (.int d8), .val (.ref y2), .unset, .unset, .unset] []
                  refine blk (pc' := 288) (Ls' := #[.val (.int p0), .val (.int p1), .val (.int p2), .val (.int p3), .val (.int p4), .val (.ref wd5), .val (.int mu), .val (.int (Int32.ofNat nn)), .val (.int (Int32.ofNat pp)), .val (.int mm), .val (.int ff), .val (.int d0), .val (.int d1), .val (.int d2), .val (.int d3), .val (.int d4), .val (.int d5), .val (.int d6), .val (.int d7), .val (.int d8), .val (.ref y2), .unset, .unset, .unset]) (st' := [(.int (84 : Int32)), (.int d6)]) [oIload w1248.ok (dc.g 143 rfl), oBipush w1248.ok (dc.g 144 rfl)] rfl ?_
                  refine cNe (pc' := 295) w1248.ok (dc.g 145 rfl) (by decide) (by decide) (fun hc1259 => ?_) (fun hc1259 => ?_)
                  · show Go κ _ T1245 295 #[.val (.int p0), .val (.int p1), .val (.int p2), .val (.int p3), .val (.int p4), .val (.ref wd5), .val (.int mu), .val (.int (Int32.ofNat nn)), .val (.int (Int32.ofNat pp)), .val (.int mm), .val (.int ff), .val (.int d0), .val (.int d1), .val (.int d2), .val (.int d3), .val (.int d4), .val (.int d5), .val (.int d6), .val (.int d7), .val (.int d8), .val (.ref y2), .unset, .unset, .unset] []
                    refine blk (pc' := 296) (Ls' := #[.val (.int p0), .val (.int p1), .val (.int p2), .val (.int p3), .val (.int p4), .val (.ref wd5), .val (.int mu), .val (.int (Int32.ofNat nn)), .val (.int (Int32.ofNat pp)), .val (.int mm), .val (.int ff), .val (.int d0), .val (.int d1), .val (.int d2), .val (.int d3), .val (.int d4), .val (.int d5), .val (.int d6), .val (.int d7), .val (.int d8), .val (.ref y2), .unset, .unset, .unset]) (st' := [(.int (0 : Int32))]) [oIconst w1248.ok (dc.g 148 rfl)] rfl ?_
                    exact k296 _ (by rw [if_neg (fun q => hc1259 q.2.2.2.2.2.2.2)])
                  · show Go κ _ T1245 291 #[.val (.int p0), .val (.int p1), .val (.int p2), .val (.int p3), .val (.int p4), .val (.ref wd5), .val (.int mu), .val (.int (Int32.ofNat nn)), .val (.int (Int32.ofNat pp)), .val (.int mm), .val (.int ff), .val (.int d0), .val (.int d1), .val (.int d2), .val (.int d3), .val (.int d4), .val (.int d5), .val (.int d6), .val (.int d7), .val (.int d8), .val (.ref y2), .unset, .unset, .unset] []
                    refine blk (pc' := 296) (Ls' := #[.val (.int p0), .val (.int p1), .val (.int p2), .val (.int p3), .val (.int p4), .val (.ref wd5), .val (.int mu), .val (.int (Int32.ofNat nn)), .val (.int (Int32.ofNat pp)), .val (.int mm), .val (.int ff), .val (.int d0), .val (.int d1), .val (.int d2), .val (.int d3), .val (.int d4), .val (.int d5), .val (.int d6), .val (.int d7), .val (.int d8), .val (.ref y2), .unset, .unset, .unset]) (st' := [(.int (1 : Int32))]) [oIconst w1248.ok (dc.g 146 rfl), oGoto w1248.ok 296 (dc.g 147 rfl)] rfl ?_
                    exact k296 _ (by rw [if_pos ⟨hn1252, hc1253, hc1254, hc1255, hc1256, hc1257, hc1258, hc1259⟩])
  intro r21 hr21
  show Go κ _ T1245 296 #[.val (.int p0), .val (.int p1), .val (.int p2), .val (.int p3), .val (.int p4), .val (.ref wd5), .val (.int mu), .val (.int (Int32.ofNat nn)), .val (.int (Int32.ofNat pp)), .val (.int mm), .val (.int ff), .val (.int d0), .val (.int d1), .val (.int d2), .val (.int d3), .val (.int d4), .val (.int d5), .val (.int d6), .val (.int d7), .val (.int d8), .val (.ref y2), .unset, .unset, .unset] [(.int r21)]
  refine blk (pc' := 298) (Ls' := #[.val (.int p0), .val (.int p1), .val (.int p2), .val (.int p3), .val (.int p4), .val (.ref wd5), .val (.int mu), .val (.int (Int32.ofNat nn)), .val (.int (Int32.ofNat pp)), .val (.int mm), .val (.int ff), .val (.int d0), .val (.int d1), .val (.int d2), .val (.int d3), .val (.int d4), .val (.int d5), .val (.int d6), .val (.int d7), .val (.int d8), .val (.ref y2), .val (.int r21), .unset, .unset]) (st' := []) [oIstore w1248.ok (dc.g 149 rfl)] rfl ?_
  suffices k344 : ∀ r22 : Int32, r22 = (if nn = 5 ∧ d0 = 83 ∧ d1 = 84 ∧ d2 = 79 ∧ d3 = 77 ∧ d4 = 80 then 1 else 0) → Go κ (GQ κ Z consts_1 room_1 (fun v h' S => v = some (.int 1))) T1245 344 #[.val (.int p0), .val (.int p1), .val (.int p2), .val (.int p3), .val (.int p4), .val (.ref wd5), .val (.int mu), .val (.int (Int32.ofNat nn)), .val (.int (Int32.ofNat pp)), .val (.int mm), .val (.int ff), .val (.int d0), .val (.int d1), .val (.int d2), .val (.int d3), .val (.int d4), .val (.int d5), .val (.int d6), .val (.int d7), .val (.int d8), .val (.ref y2), .val (.int r21), .unset, .unset] [(.int r22)] by
    refine blk (pc' := 301) (Ls' := #[.val (.int p0), .val (.int p1), .val (.int p2), .val (.int p3), .val (.int p4), .val (.ref wd5), .val (.int mu), .val (.int (Int32.ofNat nn)), .val (.int (Int32.ofNat pp)), .val (.int mm), .val (.int ff), .val (.int d0), .val (.int d1), .val (.int d2), .val (.int d3), .val (.int d4), .val (.int d5), .val (.int d6), .val (.int d7), .val (.int d8), .val (.ref y2), .val (.int r21), .unset, .unset]) (st' := [(.int (5 : Int32)), (.int (Int32.ofNat nn))]) [oIload w1248.ok (dc.g 150 rfl), oIconst w1248.ok (dc.g 151 rfl)] rfl ?_
    refine cNe (pc' := 343) w1248.ok (dc.g 152 rfl) (by decide) (by decide) (fun hc1260 => ?_) (fun hc1260 => ?_)
    · show Go κ _ T1245 343 #[.val (.int p0), .val (.int p1), .val (.int p2), .val (.int p3), .val (.int p4), .val (.ref wd5), .val (.int mu), .val (.int (Int32.ofNat nn)), .val (.int (Int32.ofNat pp)), .val (.int mm), .val (.int ff), .val (.int d0), .val (.int d1), .val (.int d2), .val (.int d3), .val (.int d4), .val (.int d5), .val (.int d6), .val (.int d7), .val (.int d8), .val (.ref y2), .val (.int r21), .unset, .unset] []
      refine blk (pc' := 344) (Ls' := #[.val (.int p0), .val (.int p1), .val (.int p2), .val (.int p3), .val (.int p4), .val (.ref wd5), .val (.int mu), .val (.int (Int32.ofNat nn)), .val (.int (Int32.ofNat pp)), .val (.int mm), .val (.int ff), .val (.int d0), .val (.int d1), .val (.int d2), .val (.int d3), .val (.int d4), .val (.int d5), .val (.int d6), .val (.int d7), .val (.int d8), .val (.ref y2), .val (.int r21), .unset, .unset]) (st' := [(.int (0 : Int32))]) [oIconst w1248.ok (dc.g 170 rfl)] rfl ?_
      exact k344 _ (by rw [if_neg (fun q => (fun t => hc1260 (by rw [t]; rfl)) q.1)])
    · show Go κ _ T1245 304 #[.val (.int p0), .val (.int p1), .val (.int p2), .val (.int p3), .val (.int p4), .val (.ref wd5), .val (.int mu), .val (.int (Int32.ofNat nn)), .val (.int (Int32.ofNat pp)), .val (.int mm), .val (.int ff), .val (.int d0), .val (.int d1), .val (.int d2), .val (.int d3), .val (.int d4), .val (.int d5), .val (.int d6), .val (.int d7), .val (.int d8), .val (.ref y2), .val (.int r21), .unset, .unset] []
      have hn1261 : nn = 5 := by have := hc1260; rw [show (5 : Int32) = Int32.ofNat 5 from rfl, ofNat_inj (by omega) (by decide)] at this; exact this
      refine blk (pc' := 308) (Ls' := #[.val (.int p0), .val (.int p1), .val (.int p2), .val (.int p3), .val (.int p4), .val (.ref wd5), .val (.int mu), .val (.int (Int32.ofNat nn)), .val (.int (Int32.ofNat pp)), .val (.int mm), .val (.int ff), .val (.int d0), .val (.int d1), .val (.int d2), .val (.int d3), .val (.int d4), .val (.int d5), .val (.int d6), .val (.int d7), .val (.int d8), .val (.ref y2), .val (.int r21), .unset, .unset]) (st' := [(.int (83 : Int32)), (.int d0)]) [oIload w1248.ok (dc.g 153 rfl), oBipush w1248.ok (dc.g 154 rfl)] rfl ?_
      refine cNe (pc' := 343) w1248.ok (dc.g 155 rfl) (by decide) (by decide) (fun hc1262 => ?_) (fun hc1262 => ?_)
      · show Go κ _ T1245 343 #[.val (.int p0), .val (.int p1), .val (.int p2), .val (.int p3), .val (.int p4), .val (.ref wd5), .val (.int mu), .val (.int (Int32.ofNat nn)), .val (.int (Int32.ofNat pp)), .val (.int mm), .val (.int ff), .val (.int d0), .val (.int d1), .val (.int d2), .val (.int d3), .val (.int d4), .val (.int d5), .val (.int d6), .val (.int d7), .val (.int d8), .val (.ref y2), .val (.int r21), .unset, .unset] []
        refine blk (pc' := 344) (Ls' := #[.val (.int p0), .val (.int p1), .val (.int p2), .val (.int p3), .val (.int p4), .val (.ref wd5), .val (.int mu), .val (.int (Int32.ofNat nn)), .val (.int (Int32.ofNat pp)), .val (.int mm), .val (.int ff), .val (.int d0), .val (.int d1), .val (.int d2), .val (.int d3), .val (.int d4), .val (.int d5), .val (.int d6), .val (.int d7), .val (.int d8), .val (.ref y2), .val (.int r21), .unset, .unset]) (st' := [(.int (0 : Int32))]) [oIconst w1248.ok (dc.g 170 rfl)] rfl ?_
        exact k344 _ (by rw [if_neg (fun q => hc1262 q.2.1)])
      · show Go κ _ T1245 311 #[.val (.int p0), .val (.int p1), .val (.int p2), .val (.int p3), .val (.int p4), .val (.ref wd5), .val (.int mu), .val (.int (Int32.ofNat nn)), .val (.int (Int32.ofNat pp)), .val (.int mm), .val (.int ff), .val (.int d0), .val (.int d1), .val (.int d2), .val (.int d3), .val (.int d4), .val (.int d5), .val (.int d6), .val (.int d7), .val (.int d8), .val (.ref y2), .val (.int r21), .unset, .unset] []
        refine blk (pc' := 315) (Ls' := #[.val (.int p0), .val (.int p1), .val (.int p2), .val (.int p3), .val (.int p4), .val (.ref wd5), .val (.int mu), .val (.int (Int32.ofNat nn)), .val (.int (Int32.ofNat pp)), .val (.int mm), .val (.int ff), .val (.int d0), .val (.int d1), .val (.int d2), .val (.int d3), .val (.int d4), .val (.int d5), .val (.int d6), .val (.int d7), .val (.int d8), .val (.ref y2), .val (.int r21), .unset, .unset]) (st' := [(.int (84 : Int32)), (.int d1)]) [oIload w1248.ok (dc.g 156 rfl), oBipush w1248.ok (dc.g 157 rfl)] rfl ?_
        refine cNe (pc' := 343) w1248.ok (dc.g 158 rfl) (by decide) (by decide) (fun hc1263 => ?_) (fun hc1263 => ?_)
        · show Go κ _ T1245 343 #[.val (.int p0), .val (.int p1), .val (.int p2), .val (.int p3), .val (.int p4), .val (.ref wd5), .val (.int mu), .val (.int (Int32.ofNat nn)), .val (.int (Int32.ofNat pp)), .val (.int mm), .val (.int ff), .val (.int d0), .val (.int d1), .val (.int d2), .val (.int d3), .val (.int d4), .val (.int d5), .val (.int d6), .val (.int d7), .val (.int d8), .val (.ref y2), .val (.int r21), .unset, .unset] []
          refine blk (pc' := 344) (Ls' := #[.val (.int p0), .val (.int p1), .val (.int p2), .val (.int p3), .val (.int p4), .val (.ref wd5), .val (.int mu), .val (.int (Int32.ofNat nn)), .val (.int (Int32.ofNat pp)), .val (.int mm), .val (.int ff), .val (.int d0), .val (.int d1), .val (.int d2), .val (.int d3), .val (.int d4), .val (.int d5), .val (.int d6), .val (.int d7), .val (.int d8), .val (.ref y2), .val (.int r21), .unset, .unset]) (st' := [(.int (0 : Int32))]) [oIconst w1248.ok (dc.g 170 rfl)] rfl ?_
          exact k344 _ (by rw [if_neg (fun q => hc1263 q.2.2.1)])
        · show Go κ _ T1245 318 #[.val (.int p0), .val (.int p1), .val (.int p2), .val (.int p3), .val (.int p4), .val (.ref wd5), .val (.int mu), .val (.int (Int32.ofNat nn)), .val (.int (Int32.ofNat pp)), .val (.int mm), .val (.int ff), .val (.int d0), .val (.int d1), .val (.int d2), .val (.int d3), .val (.int d4), .val (.int d5), .val (.int d6), .val (.int d7), .val (.int d8), .val (.ref y2), .val (.int r21), .unset, .unset] []
          refine blk (pc' := 322) (Ls' := #[.val (.int p0), .val (.int p1), .val (.int p2), .val (.int p3), .val (.int p4), .val (.ref wd5), .val (.int mu), .val (.int (Int32.ofNat nn)), .val (.int (Int32.ofNat pp)), .val (.int mm), .val (.int ff), .val (.int d0), .val (.int d1), .val (.int d2), .val (.int d3), .val (.int d4), .val (.int d5), .val (.int d6), .val (.int d7), .val (.int d8), .val (.ref y2), .val (.int r21), .unset, .unset]) (st' := [(.int (79 : Int32)), (.int d2)]) [oIload w1248.ok (dc.g 159 rfl), oBipush w1248.ok (dc.g 160 rfl)] rfl ?_
          refine cNe (pc' := 343) w1248.ok (dc.g 161 rfl) (by decide) (by decide) (fun hc1264 => ?_) (fun hc1264 => ?_)
          · show Go κ _ T1245 343 #[.val (.int p0), .val (.int p1), .val (.int p2), .val (.int p3), .val (.int p4), .val (.ref wd5), .val (.int mu), .val (.int (Int32.ofNat nn)), .val (.int (Int32.ofNat pp)), .val (.int mm), .val (.int ff), .val (.int d0), .val (.int d1), .val (.int d2), .val (.int d3), .val (.int d4), .val (.int d5), .val (.int d6), .val (.int d7), .val (.int d8), .val (.ref y2), .val (.int r21), .unset, .unset] []
            refine blk (pc' := 344) (Ls' := #[.val (.int p0), .val (.int p1), .val (.int p2), .val (.int p3), .val (.int p4), .val (.ref wd5), .val (.int mu), .val (.int (Int32.ofNat nn)), .val (.int (Int32.ofNat pp)), .val (.int mm), .val (.int ff), .val (.int d0), .val (.int d1), .val (.int d2), .val (.int d3), .val (.int d4), .val (.int d5), .val (.int d6), .val (.int d7), .val (.int d8), .val (.ref y2), .val (.int r21), .unset, .unset]) (st' := [(.int (0 : Int32))]) [oIconst w1248.ok (dc.g 170 rfl)] rfl ?_
            exact k344 _ (by rw [if_neg (fun q => hc1264 q.2.2.2.1)])
          · show Go κ _ T1245 325 #[.val (.int p0), .val (.int p1), .val (.int p2), .val (.int p3), .val (.int p4), .val (.ref wd5), .val (.int mu), .val (.int (Int32.ofNat nn)), .val (.int (Int32.ofNat pp)), .val (.int mm), .val (.int ff), .val (.int d0), .val (.int d1), .val (.int d2), .val (.int d3), .val (.int d4), .val (.int d5), .val (.int d6), .val (.int d7), .val (.int d8), .val (.ref y2), .val (.int r21), .unset, .unset] []
            refine blk (pc' := 329) (Ls' := #[.val (.int p0), .val (.int p1), .val (.int p2), .val (.int p3), .val (.int p4), .val (.ref wd5), .val (.int mu), .val (.int (Int32.ofNat nn)), .val (.int (Int32.ofNat pp)), .val (.int mm), .val (.int ff), .val (.int d0), .val (.int d1), .val (.int d2), .val (.int d3), .val (.int d4), .val (.int d5), .val (.int d6), .val (.int d7), .val (.int d8), .val (.ref y2), .val (.int r21), .unset, .unset]) (st' := [(.int (77 : Int32)), (.int d3)]) [oIload w1248.ok (dc.g 162 rfl), oBipush w1248.ok (dc.g 163 rfl)] rfl ?_
            refine cNe (pc' := 343) w1248.ok (dc.g 164 rfl) (by decide) (by decide) (fun hc1265 => ?_) (fun hc1265 => ?_)
            · show Go κ _ T1245 343 #[.val (.int p0), .val (.int p1), .val (.int p2), .val (.int p3), .val (.int p4), .val (.ref wd5), .val (.int mu), .val (.int (Int32.ofNat nn)), .val (.int (Int32.ofNat pp)), .val (.int mm), .val (.int ff), .val (.int d0), .val (.int d1), .val (.int d2), .val (.int d3), .val (.int d4), .val (.int d5), .val (.int d6), .val (.int d7), .val (.int d8), .val (.ref y2), .val (.int r21), .unset, .unset] []
              refine blk (pc' := 344) (Ls' := #[.val (.int p0), .val (.int p1), .val (.int p2), .val (.int p3), .val (.int p4), .val (.ref wd5), .val (.int mu), .val (.int (Int32.ofNat nn)), .val (.int (Int32.ofNat pp)), .val (.int mm), .val (.int ff), .val (.int d0), .val (.int d1), .val (.int d2), .val (.int d3), .val (.int d4), .val (.int d5), .val (.int d6), .val (.int d7), .val (.int d8), .val (.ref y2), .val (.int r21), .unset, .unset]) (st' := [(.int (0 : Int32))]) [oIconst w1248.ok (dc.g 170 rfl)] rfl ?_
              exact k344 _ (by rw [if_neg (fun q => hc1265 q.2.2.2.2.1)])
            · show Go κ _ T1245 332 #[.val (.int p0), .val (.int p1), .val (.int p2), .val (.int p3), .val (.int p4), .val (.ref wd5), .val (.int mu), .val (.int (Int32.ofNat nn)), .val (.int (Int32.ofNat pp)), .val (.int mm), .val (.int ff), .val (.int d0), .val (.int d1), .val (.int d2), .val (.int d3), .val (.int d4), .val (.int d5), .val (.int d6), .val (.int d7), .val (.int d8), .val (.ref y2), .val (.int r21), .unset, .unset] []
              refine blk (pc' := 336) (Ls' := #[.val (.int p0), .val (.int p1), .val (.int p2), .val (.int p3), .val (.int p4), .val (.ref wd5), .val (.int mu), .val (.int (Int32.ofNat nn)), .val (.int (Int32.ofNat pp)), .val (.int mm), .val (.int ff), .val (.int d0), .val (.int d1), .val (.int d2), .val (.int d3), .val (.int d4), .val (.int d5), .val (.int d6), .val (.int d7), .val (.int d8), .val (.ref y2), .val (.int r21), .unset, .unset]) (st' := [(.int (80 : Int32)), (.int d4)]) [oIload w1248.ok (dc.g 165 rfl), oBipush w1248.ok (dc.g 166 rfl)] rfl ?_
              refine cNe (pc' := 343) w1248.ok (dc.g 167 rfl) (by decide) (by decide) (fun hc1266 => ?_) (fun hc1266 => ?_)
              · show Go κ _ T1245 343 #[.val (.int p0), .val (.int p1), .val (.int p2), .val (.int p3), .val (.int p4), .val (.ref wd5), .val (.int mu), .val (.int (Int32.ofNat nn)), .val (.int (Int32.ofNat pp)), .val (.int mm), .val (.int ff), .val (.int d0), .val (.int d1), .val (.int d2), .val (.int d3), .val (.int d4), .val (.int d5), .val (.int d6), .val (.int d7), .val (.int d8), .val (.ref y2), .val (.int r21), .unset, .unset] []
                refine blk (pc' := 344) (Ls' := #[.val (.int p0), .val (.int p1), .val (.int p2), .val (.int p3), .val (.int p4), .val (.ref wd5), .val (.int mu), .val (.int (Int32.ofNat nn)), .val (.int (Int32.ofNat pp)), .val (.int mm), .val (.int ff), .val (.int d0), .val (.int d1), .val (.int d2), .val (.int d3), .val (.int d4), .val (.int d5), .val (.int d6), .val (.int d7), .val (.int d8), .val (.ref y2), .val (.int r21), .unset, .unset]) (st' := [(.int (0 : Int32))]) [oIconst w1248.ok (dc.g 170 rfl)] rfl ?_
                exact k344 _ (by rw [if_neg (fun q => hc1266 q.2.2.2.2.2)])
              · show Go κ _ T1245 339 #[.val (.int p0), .val (.int p1), .val (.int p2), .val (.int p3), .val (.int p4), .val (.ref wd5), .val (.int mu), .val (.int (Int32.ofNat nn)), .val (.int (Int32.ofNat pp)), .val (.int mm), .val (.int ff), .val (.int d0), .val (.int d1), .val (.int d2), .val (.int d3), .val (.int d4), .val (.int d5), .val (.int d6), .val (.int d7), .val (.int d8), .val (.ref y2), .val (.int r21), .unset, .unset] []
                refine blk (pc' := 344) (Ls' := #[.val (.int p0), .val (.int p1), .val (.int p2), .val (.int p3), .val (.int p4), .val (.ref wd5), .val (.int mu), .val (.int (Int32.ofNat nn)), .val (.int (Int32.ofNat pp)), .val (.int mm), .val (.int ff), .val (.int d0), .val (.int d1), .val (.int d2), .val (.int d3), .val (.int d4), .val (.int d5), .val (.int d6), .val (.int d7), .val (.int d8), .val (.ref y2), .val (.int r21), .unset, .unset]) (st' := [(.int (1 : Int32))]) [oIconst w1248.ok (dc.g 168 rfl), oGoto w1248.ok 344 (dc.g 169 rfl)] rfl ?_
                exact k344 _ (by rw [if_pos ⟨hn1261, hc1262, hc1263, hc1264, hc1265, hc1266⟩])
  intro r22 hr22
  show Go κ _ T1245 344 #[.val (.int p0), .val (.int p1), .val (.int p2), .val (.int p3), .val (.int p4), .val (.ref wd5), .val (.int mu), .val (.int (Int32.ofNat nn)), .val (.int (Int32.ofNat pp)), .val (.int mm), .val (.int ff), .val (.int d0), .val (.int d1), .val (.int d2), .val (.int d3), .val (.int d4), .val (.int d5), .val (.int d6), .val (.int d7), .val (.int d8), .val (.ref y2), .val (.int r21), .unset, .unset] [(.int r22)]
  refine blk (pc' := 346) (Ls' := #[.val (.int p0), .val (.int p1), .val (.int p2), .val (.int p3), .val (.int p4), .val (.ref wd5), .val (.int mu), .val (.int (Int32.ofNat nn)), .val (.int (Int32.ofNat pp)), .val (.int mm), .val (.int ff), .val (.int d0), .val (.int d1), .val (.int d2), .val (.int d3), .val (.int d4), .val (.int d5), .val (.int d6), .val (.int d7), .val (.int d8), .val (.ref y2), .val (.int r21), .val (.int r22), .unset]) (st' := []) [oIstore w1248.ok (dc.g 171 rfl)] rfl ?_
  suffices k361 : ∀ r23 : Int32, r23 = (if (nn = 7 ∧ d0 = 67 ∧ d1 = 79 ∧ d2 = 78 ∧ d3 = 78 ∧ d4 = 69 ∧ d5 = 67 ∧ d6 = 84) ∨ (nn = 5 ∧ d0 = 83 ∧ d1 = 84 ∧ d2 = 79 ∧ d3 = 77 ∧ d4 = 80) then 1 else 0) → Go κ (GQ κ Z consts_1 room_1 (fun v h' S => v = some (.int 1))) T1245 361 #[.val (.int p0), .val (.int p1), .val (.int p2), .val (.int p3), .val (.int p4), .val (.ref wd5), .val (.int mu), .val (.int (Int32.ofNat nn)), .val (.int (Int32.ofNat pp)), .val (.int mm), .val (.int ff), .val (.int d0), .val (.int d1), .val (.int d2), .val (.int d3), .val (.int d4), .val (.int d5), .val (.int d6), .val (.int d7), .val (.int d8), .val (.ref y2), .val (.int r21), .val (.int r22), .unset] [(.int r23)] by
    refine blk (pc' := 348) (Ls' := #[.val (.int p0), .val (.int p1), .val (.int p2), .val (.int p3), .val (.int p4), .val (.ref wd5), .val (.int mu), .val (.int (Int32.ofNat nn)), .val (.int (Int32.ofNat pp)), .val (.int mm), .val (.int ff), .val (.int d0), .val (.int d1), .val (.int d2), .val (.int d3), .val (.int d4), .val (.int d5), .val (.int d6), .val (.int d7), .val (.int d8), .val (.ref y2), .val (.int r21), .val (.int r22), .unset]) (st' := [(.int r21)]) [oIload w1248.ok (dc.g 172 rfl)] rfl ?_
    refine zNe (pc' := 356) w1248.ok (dc.g 173 rfl) (by decide) (by decide) (fun hc1267 => ?_) (fun hc1267 => ?_)
    · show Go κ _ T1245 356 #[.val (.int p0), .val (.int p1), .val (.int p2), .val (.int p3), .val (.int p4), .val (.ref wd5), .val (.int mu), .val (.int (Int32.ofNat nn)), .val (.int (Int32.ofNat pp)), .val (.int mm), .val (.int ff), .val (.int d0), .val (.int d1), .val (.int d2), .val (.int d3), .val (.int d4), .val (.int d5), .val (.int d6), .val (.int d7), .val (.int d8), .val (.ref y2), .val (.int r21), .val (.int r22), .unset] []
      refine blk (pc' := 361) (Ls' := #[.val (.int p0), .val (.int p1), .val (.int p2), .val (.int p3), .val (.int p4), .val (.ref wd5), .val (.int mu), .val (.int (Int32.ofNat nn)), .val (.int (Int32.ofNat pp)), .val (.int mm), .val (.int ff), .val (.int d0), .val (.int d1), .val (.int d2), .val (.int d3), .val (.int d4), .val (.int d5), .val (.int d6), .val (.int d7), .val (.int d8), .val (.ref y2), .val (.int r21), .val (.int r22), .unset]) (st' := [(.int (1 : Int32))]) [oIconst w1248.ok (dc.g 176 rfl), oGoto w1248.ok 361 (dc.g 177 rfl)] rfl ?_
      exact k361 _ (by rw [if_pos (Or.inl (Classical.byContradiction fun q => hc1267 (by rw [hr21, if_neg q])))])
    · show Go κ _ T1245 351 #[.val (.int p0), .val (.int p1), .val (.int p2), .val (.int p3), .val (.int p4), .val (.ref wd5), .val (.int mu), .val (.int (Int32.ofNat nn)), .val (.int (Int32.ofNat pp)), .val (.int mm), .val (.int ff), .val (.int d0), .val (.int d1), .val (.int d2), .val (.int d3), .val (.int d4), .val (.int d5), .val (.int d6), .val (.int d7), .val (.int d8), .val (.ref y2), .val (.int r21), .val (.int r22), .unset] []
      have g1 : ¬ (nn = 7 ∧ d0 = 67 ∧ d1 = 79 ∧ d2 = 78 ∧ d3 = 78 ∧ d4 = 69 ∧ d5 = 67 ∧ d6 = 84) := fun q => by rw [if_pos q] at hr21; rw [hr21] at hc1267; exact absurd hc1267 (by decide)
      refine blk (pc' := 353) (Ls' := #[.val (.int p0), .val (.int p1), .val (.int p2), .val (.int p3), .val (.int p4), .val (.ref wd5), .val (.int mu), .val (.int (Int32.ofNat nn)), .val (.int (Int32.ofNat pp)), .val (.int mm), .val (.int ff), .val (.int d0), .val (.int d1), .val (.int d2), .val (.int d3), .val (.int d4), .val (.int d5), .val (.int d6), .val (.int d7), .val (.int d8), .val (.ref y2), .val (.int r21), .val (.int r22), .unset]) (st' := [(.int r22)]) [oIload w1248.ok (dc.g 174 rfl)] rfl ?_
      refine zEq (pc' := 360) w1248.ok (dc.g 175 rfl) (by decide) (by decide) (fun hc1268 => ?_) (fun hc1268 => ?_)
      · show Go κ _ T1245 360 #[.val (.int p0), .val (.int p1), .val (.int p2), .val (.int p3), .val (.int p4), .val (.ref wd5), .val (.int mu), .val (.int (Int32.ofNat nn)), .val (.int (Int32.ofNat pp)), .val (.int mm), .val (.int ff), .val (.int d0), .val (.int d1), .val (.int d2), .val (.int d3), .val (.int d4), .val (.int d5), .val (.int d6), .val (.int d7), .val (.int d8), .val (.ref y2), .val (.int r21), .val (.int r22), .unset] []
        refine blk (pc' := 361) (Ls' := #[.val (.int p0), .val (.int p1), .val (.int p2), .val (.int p3), .val (.int p4), .val (.ref wd5), .val (.int mu), .val (.int (Int32.ofNat nn)), .val (.int (Int32.ofNat pp)), .val (.int mm), .val (.int ff), .val (.int d0), .val (.int d1), .val (.int d2), .val (.int d3), .val (.int d4), .val (.int d5), .val (.int d6), .val (.int d7), .val (.int d8), .val (.ref y2), .val (.int r21), .val (.int r22), .unset]) (st' := [(.int (0 : Int32))]) [oIconst w1248.ok (dc.g 178 rfl)] rfl ?_
        exact k361 _ (by rw [if_neg (fun q => q.elim g1 (fun q => by rw [if_pos q] at hr22; rw [hr22] at hc1268; exact absurd hc1268 (by decide)))])
      · show Go κ _ T1245 356 #[.val (.int p0), .val (.int p1), .val (.int p2), .val (.int p3), .val (.int p4), .val (.ref wd5), .val (.int mu), .val (.int (Int32.ofNat nn)), .val (.int (Int32.ofNat pp)), .val (.int mm), .val (.int ff), .val (.int d0), .val (.int d1), .val (.int d2), .val (.int d3), .val (.int d4), .val (.int d5), .val (.int d6), .val (.int d7), .val (.int d8), .val (.ref y2), .val (.int r21), .val (.int r22), .unset] []
        refine blk (pc' := 361) (Ls' := #[.val (.int p0), .val (.int p1), .val (.int p2), .val (.int p3), .val (.int p4), .val (.ref wd5), .val (.int mu), .val (.int (Int32.ofNat nn)), .val (.int (Int32.ofNat pp)), .val (.int mm), .val (.int ff), .val (.int d0), .val (.int d1), .val (.int d2), .val (.int d3), .val (.int d4), .val (.int d5), .val (.int d6), .val (.int d7), .val (.int d8), .val (.ref y2), .val (.int r21), .val (.int r22), .unset]) (st' := [(.int (1 : Int32))]) [oIconst w1248.ok (dc.g 176 rfl), oGoto w1248.ok 361 (dc.g 177 rfl)] rfl ?_
        exact k361 _ (by rw [if_pos (Or.inr (Classical.byContradiction fun q => hc1268 (by rw [hr22, if_neg q])))])
  intro r23 hr23
  show Go κ _ T1245 361 #[.val (.int p0), .val (.int p1), .val (.int p2), .val (.int p3), .val (.int p4), .val (.ref wd5), .val (.int mu), .val (.int (Int32.ofNat nn)), .val (.int (Int32.ofNat pp)), .val (.int mm), .val (.int ff), .val (.int d0), .val (.int d1), .val (.int d2), .val (.int d3), .val (.int d4), .val (.int d5), .val (.int d6), .val (.int d7), .val (.int d8), .val (.ref y2), .val (.int r21), .val (.int r22), .unset] [(.int r23)]
  refine blk (pc' := 365) (Ls' := #[.val (.int p0), .val (.int p1), .val (.int p2), .val (.int p3), .val (.int p4), .val (.ref wd5), .val (.int mu), .val (.int (Int32.ofNat nn)), .val (.int (Int32.ofNat pp)), .val (.int mm), .val (.int ff), .val (.int d0), .val (.int d1), .val (.int d2), .val (.int d3), .val (.int d4), .val (.int d5), .val (.int d6), .val (.int d7), .val (.int d8), .val (.ref y2), .val (.int r21), .val (.int r22), .val (.int r23)]) (st' := [(.ref y2)]) [oIstore w1248.ok (dc.g 179 rfl), oAload w1248.ok (dc.g 180 rfl)] rfl ?_
  refine w1248.callS (wd hw 72 rfl) (wd hw 73 rfl) (wd hw 74 rfl) (wd hw 75 rfl) (by decide) (argsL := [(.ref y2)]) (Wd := 0) (Ctr.pays (len := 3) (Wd := 0) (c_conn l Z a0 hw hEL hJS (w1248.old ozs) F2 (own_isLt LD)) w1248 (wd hw 75 rfl) (wd hw 74 rfl) hEL (by decide) (by decide) sfNil) pd16 rfl (st := []) rfl rfl (Nat.le_of_eq rfl) (dc.g 181 rfl) (by decide) (by decide) ?_
  intro vm1269 T1270 h1271 v1272 w1273 C1274 Q1275
  subst Q1275
  show Go κ _ T1270 368 #[.val (.int p0), .val (.int p1), .val (.int p2), .val (.int p3), .val (.int p4), .val (.ref wd5), .val (.int mu), .val (.int (Int32.ofNat nn)), .val (.int (Int32.ofNat pp)), .val (.int mm), .val (.int ff), .val (.int d0), .val (.int d1), .val (.int d2), .val (.int d3), .val (.int d4), .val (.int d5), .val (.int d6), .val (.int d7), .val (.int d8), .val (.ref y2), .val (.int r21), .val (.int r22), .val (.int r23)] [(.int (if ([d0, d1, d2, d3, d4, d5, d6, d7, d8] : List Int32).take nn = ([67, 79, 78, 78, 69, 67, 84] : List Int32) ∨ ([d0, d1, d2, d3, d4, d5, d6, d7, d8] : List Int32).take nn = ([83, 84, 79, 77, 80] : List Int32) then (1 : Int32) else 0))]
  refine blk (pc' := 370) (Ls' := #[.val (.int p0), .val (.int p1), .val (.int p2), .val (.int p3), .val (.int p4), .val (.ref wd5), .val (.int mu), .val (.int (Int32.ofNat nn)), .val (.int (Int32.ofNat pp)), .val (.int mm), .val (.int ff), .val (.int d0), .val (.int d1), .val (.int d2), .val (.int d3), .val (.int d4), .val (.int d5), .val (.int d6), .val (.int d7), .val (.int d8), .val (.ref y2), .val (.int r21), .val (.int r22), .val (.int r23)]) (st' := [(.int r23), (.int (if ([d0, d1, d2, d3, d4, d5, d6, d7, d8] : List Int32).take nn = ([67, 79, 78, 78, 69, 67, 84] : List Int32) ∨ ([d0, d1, d2, d3, d4, d5, d6, d7, d8] : List Int32).take nn = ([83, 84, 79, 77, 80] : List Int32) then (1 : Int32) else 0))]) [oIload w1273.ok (dc.g 182 rfl)] rfl ?_
  refine cNe (pc' := 377) w1273.ok (dc.g 183 rfl) (by decide) (by decide) (fun hc1276 => absurd (by rw [hr23]; simp only [own_take hnn]) hc1276) (fun hc1276 => ?_)
  show Go κ _ T1270 373 #[.val (.int p0), .val (.int p1), .val (.int p2), .val (.int p3), .val (.int p4), .val (.ref wd5), .val (.int mu), .val (.int (Int32.ofNat nn)), .val (.int (Int32.ofNat pp)), .val (.int mm), .val (.int ff), .val (.int d0), .val (.int d1), .val (.int d2), .val (.int d3), .val (.int d4), .val (.int d5), .val (.int d6), .val (.int d7), .val (.int d8), .val (.ref y2), .val (.int r21), .val (.int r22), .val (.int r23)] []
  refine blk (pc' := 378) (Ls' := #[.val (.int p0), .val (.int p1), .val (.int p2), .val (.int p3), .val (.int p4), .val (.ref wd5), .val (.int mu), .val (.int (Int32.ofNat nn)), .val (.int (Int32.ofNat pp)), .val (.int mm), .val (.int ff), .val (.int d0), .val (.int d1), .val (.int d2), .val (.int d3), .val (.int d4), .val (.int d5), .val (.int d6), .val (.int d7), .val (.int d8), .val (.ref y2), .val (.int r21), .val (.int r22), .val (.int r23)]) (st' := [(.int (1 : Int32))]) [oIconst w1273.ok (dc.g 184 rfl), oGoto w1273.ok 378 (dc.g 185 rfl)] rfl ?_
  exact w1273.retI (t := .boolean) rfl (Or.inr (Or.inl rfl)) rfl (dc.g 187 rfl) (by decide) (by decide) (fun S hS => rfl)
set_option maxRecDepth 65536 in
set_option maxHeartbeats 4000000 in
theorem comes_1 {Post : Tables → Env → Array Value → State → Outcome → State → Prop} (hpost : ∀ tb e args s v u, (limb_1_1.after args s (.returned v) u = true ∧ limb_1_2.after args s (.returned v) u = true ∧ True) → ReturnedEndW s (.returned v) u (Jvm.fieldLocs frame_1_writes args s ++ Jvm.arrayLocs frame_1_arrays args s ++ Jvm.staticLocs frame_1_statics s) 24 5248 → Post tb e args s (.returned v) u) :
    ArmFor flags0 classFile x code maxLocals ret World_1 tables_1 room_1 Calls_1 rest_1 Pre_1 Post := by
  intro l hfl _ _ p e ha hc hk s m args below hf hA hF happ hP
  obtain ⟨hcalls, hrest, hpre⟩ := hP
  obtain ⟨-, -, -, hnamed, -, -, -, hat⟩ := (Spec.applies_iff hf).mp happ
  obtain ⟨hg, hn⟩ := and_e (Cond.before_iff.mp (show (Jvm.Cond.and given_1 narrow_1).before args s = true from hpre))
  obtain ⟨hct, q0⟩ := and_e hg
  obtain ⟨g0, q1⟩ := and_e q0
  obtain ⟨g1, q2⟩ := and_e q1
  obtain ⟨g2, q3⟩ := and_e q2
  obtain ⟨g3, q4⟩ := and_e q3
  have g4 := q4
  obtain ⟨w0, w1, w2, w3, w4, rfl⟩ : ∃ w0 w1 w2 w3 w4 : Value, args = #[w0, w1, w2, w3, w4] := by
    have hs : args.size = 5 := by simpa [Cond.value, given_1] using hct
    obtain ⟨L⟩ := args
    match L, hs with
    | [w0, w1, w2, w3, w4], _ => exact ⟨w0, w1, w2, w3, w4, rfl⟩
  obtain ⟨i0, e0⟩ := is_v g0
  obtain rfl : w0 = (.int i0) := Option.some.inj e0
  obtain ⟨i1, e1⟩ := is_v g1
  obtain rfl : w1 = (.int i1) := Option.some.inj e1
  obtain ⟨i2, e2⟩ := is_v g2
  obtain rfl : w2 = (.int i2) := Option.some.inj e2
  obtain ⟨i3, e3⟩ := is_v g3
  obtain rfl : w3 = (.int i3) := Option.some.inj e3
  obtain ⟨i4, e4⟩ := is_v g4
  obtain rfl : w4 = (.int i4) := Option.some.inj e4
  have hw := fun d (hd : d ∈ tables_1) => atoms_spec (ws := Jvm.Cond.code x code maxLocals ret :: tables_1) hat d (List.mem_cons_of_mem _ hd)
  obtain ⟨hsets, hown0⟩ := atoms_of _ (rest_1_c_eq ▸ (show rest_1_c.before _ s = true from hrest))
  have hfit : Fit s := fun {y c} hc i hi => by
    obtain ⟨ha, rfl⟩ := Array.getElem?_eq_some_iff.mp hc
    have q := List.all_eq_true.mp ((Array.all_eq_true_iff_forall_mem.mp hF) _ (Array.getElem_mem ha)) i (List.mem_range.mpr hi)
    simpa [Array.getElem?_eq_getElem hi] using q
  have n5 := not_v (Cond.before_iff.mp (hsets _ (List.mem_of_getElem? (i := 2) rfl)))
  obtain ⟨zc, ez⟩ := is_v (Cond.before_iff.mp (hsets _ (List.mem_of_getElem? (i := 1) rfl)))
  have Scs : Sta s s.heap "java/lang/String" "COMPACT_STRINGS" "Z" (.int zc) := Sta.start ez (Or.inl (hsets _ (List.mem_of_getElem? (i := 0) rfl)))
  have ncs : ¬ (zc = (0 : Int32)) := gotF (Cond.eq_ints ez (Term.int_eval (0))) n5
  obtain ⟨vf, ef, rf⟩ := isR_v (Cond.before_iff.mp (hsets _ (List.mem_of_getElem? (i := 8) rfl)))
  have Sf0 : Sta s s.heap "jdk/internal/util/Preconditions" "SIOOBE_FORMATTER" "Ljava/util/function/BiFunction;" vf := Sta.start ef (Or.inl (hsets _ (List.mem_of_getElem? (i := 7) rfl)))
  have hJS : JS s := ⟨⟨zc, Scs, ncs⟩, vf, Sf0, rf⟩
  have hEL : EW s #[.int i0, .int i1, .int i2, .int i3, .int i4] consts_1 := (EW.cons (hw _ (List.mem_of_getElem? (i := 76) rfl)) (by decide) (EW.cons (hw _ (List.mem_of_getElem? (i := 86) rfl)) (by decide) (EW.cons (hw _ (List.mem_of_getElem? (i := 0) rfl)) (by decide) (EW.cons (hw _ (List.mem_of_getElem? (i := 87) rfl)) (by decide) (EW.cons (hw _ (List.mem_of_getElem? (i := 88) rfl)) (by decide) EW.nil)))))
  have hcw : Jvm.Lit.compactW.before #[.int i0, .int i1, .int i2, .int i3, .int i4] s = true := hsets _ (List.mem_of_getElem? (i := 2) rfl)
  have hch : CHv s consts_1 s.vm s.heap := CHv.start hEL (fun p hp => hcalls.1 p hp) hcw (hw _ (List.mem_of_getElem? (i := 3) rfl)) (hw _ (List.mem_of_getElem? (i := 2) rfl))
  obtain ⟨n, o, h1, h2, h3, _, L, rfl, ⟨rfl, N⟩, -, hq⟩ := c_law l s _ hw hEL hJS s.heap ⟨Nat.le_refl _, fun _ _ q => q⟩ tables_1 p e ha hc hk s m _ below hf ((Spec.applies_iff_loose hf).mp happ).1 ⟨rfl, State.Warmed39.refl s, rfl, hch, fun _ h => nomatch h⟩ trivial
  refine ⟨n, _, h1, h2, h3, hpost _ _ _ _ _ _ ⟨Cond.after_iff.mpr rfl, Cond.after_iff.mpr (eq_i res_at (Term.int_eval (1)) rfl), trivial⟩ ⟨hq.1, hq.2.1, hq.2.2.1, (hq.2.2.2.sift fun y hy => Or.inr (N y hy)).mono (by decide) (by decide)⟩⟩
theorem main_1_1 : Claimed_1_1 := comes_1 fun _ _ _ _ _ _ h hF => ⟨h.1, hF⟩
theorem main_1_2 : Claimed_1_2 := comes_1 fun _ _ _ _ _ _ h hF => ⟨h.2.1, hF⟩
end Jvm.Pilot.@@N@@
namespace Jvm.Pilot.@@N@@
open Jvm Jvm.ClassFile Sem Op Lib Jvm.Free Jvm.Stand Jvm.Pilot.@@N@@.Jvm.D
/-! MADE BY PROGRAM (witnessworld.py) out of the Statement's table words and the real class files: 18 classes; the members and pool entries that the words name. The judged class is class 1, her method 1. -/
namespace start1
open Jvm.ClassFile
def u (s : String) : CpInfo := .utf8 (stringToUtf16 s)
/-- a pool by its gaps: so many unusable entries, then the entry; so many at the end -/
def gap : Nat → List CpInfo → List CpInfo
  | 0, r => r
  | n + 1, r => .unusable :: gap n r
def poolList (es : List (Nat × CpInfo)) (last : Nat) : List CpInfo := es.foldr (fun e r => gap e.1 (e.2 :: r)) (gap last [])
def pool (es : List (Nat × CpInfo)) (last : Nat) : Array CpInfo := ⟨poolList es last⟩
def fileOf (pool : Array CpInfo) (this : Nat) (attrs : Array Attribute := #[]) (ms : Array MethodInfo := #[]) (fl : Nat := 33) (sup : Nat := 0) (ifs : Array Nat := #[]) (fds : Array FieldInfo := #[]) : ClassFile where
  minorVersion := 0
  majorVersion := 65
  constantPool := pool
  accessFlags := fl
  thisClass := this
  superClass := sup
  interfaces := ifs
  fields := fds
  methods := ms
  attributes := attrs
def plain (name : String) (sup : Option ClassId) : Class where
  name := name
  kind := .ordinary
  loader := none
  accessFlags := 33
  super := sup
  interfaces := #[]
  cf := none
  fields := #[]
  methods := #[]
  instanceTypes := #[]
  staticTypes := #[]
  resolved := #[]
  callSites := []
  init := .initialized
  statics := none
  mirror := none

def pool0 : Array CpInfo := pool [(5, u "<init>"), (0, u "()V"), (1, .class_ 10), (1, u "java/lang/Object")] 113

def k0c0 : Code := { maxStack := 0, maxLocals := 1, code := object_method_1_code, exceptionTable := #[], attributes := #[] }
def k0m0 : Method := { name := "<init>", desc := "()V", sig := { parameters := [], returnType := none }, accessFlags := 1, code := some k0c0 }
/-- java/lang/Object -/
def k0 : Class := { plain "java/lang/Object" none with
  accessFlags := 33
  interfaces := #[]
  cf := some (fileOf pool0 8 #[] #[{ accessFlags := 1, nameIndex := 5, descriptorIndex := 6, attributes := #[] }] 33 0 #[] #[])
  fields := #[]
  methods := #[k0m0]
  instanceTypes := #[]
  staticTypes := #[]
  resolved := Array.replicate 124 none
  statics := none }

def pool1 : Array CpInfo := pool [(2, .class_ 4), (1, u "java/lang/Object"), (0, u "<init>"), (0, u "()V"), (0, .string 8), (0, u "CONNECT"), (0, .string 10), (0, u "STOMP"), (0, .methodref 12 13), (0, .class_ 14), (0, .nameAndType 15 16), (0, u "com/example/heronbus/heronbus/stomp/FrameIsConnectPinLaw"), (0, u "pick"), (0, u "(Ljava/lang/String;IIZCC)C"), (0, .methodref 12 18), (0, .nameAndType 19 20), (0, u "make"), (0, u "(ICCCCCCCCC)Ljava/lang/String;"), (0, .methodref 22 23), (0, .class_ 24), (0, .nameAndType 25 26), (0, u "com/example/heronbus/heronbus/stomp/Frame"), (0, u "isConnect"), (0, u "(Ljava/lang/String;)Z"), (0, .methodref 28 29), (0, .class_ 30), (0, .nameAndType 31 32), (0, u "java/lang/String"), (0, u "length"), (0, u "()I"), (0, .methodref 28 34), (0, .nameAndType 35 36), (0, u "charAt"), (0, u "(I)C"), (0, .methodref 28 38), (0, .nameAndType 5 39), (0, u "([C)V"), (2, u "law"), (0, u "(IIIII)Z")] 3

def k1m0 : Method := { name := "<init>", desc := "()V", sig := { parameters := [], returnType := none }, accessFlags := 1, code := none }
def k1c1 : Code := { maxStack := 10, maxLocals := 24, code := code, exceptionTable := #[], attributes := #[] }
def k1m1 : Method := { name := "law", desc := "(IIIII)Z", sig := { parameters := [.int, .int, .int, .int, .int], returnType := some .boolean }, accessFlags := 9, code := some k1c1 }
def k1c2 : Code := { maxStack := 2, maxLocals := 6, code := method_3_code, exceptionTable := #[], attributes := #[] }
def k1m2 : Method := { name := "pick", desc := "(Ljava/lang/String;IIZCC)C", sig := { parameters := [(.object "java/lang/String"), .int, .int, .boolean, .char, .char], returnType := some .char }, accessFlags := 10, code := some k1c2 }
def k1c3 : Code := { maxStack := 6, maxLocals := 10, code := method_4_code, exceptionTable := #[], attributes := #[] }
def k1m3 : Method := { name := "make", desc := "(ICCCCCCCCC)Ljava/lang/String;", sig := { parameters := [.int, .char, .char, .char, .char, .char, .char, .char, .char, .char], returnType := some (.object "java/lang/String") }, accessFlags := 10, code := some k1c3 }
/-- com/example/heronbus/heronbus/stomp/FrameIsConnectPinLaw -/
def k1 : Class := { plain "com/example/heronbus/heronbus/stomp/FrameIsConnectPinLaw" (some 0) with
  accessFlags := 49
  interfaces := #[]
  cf := some (fileOf pool1 12 #[] #[{ accessFlags := 1, nameIndex := 5, descriptorIndex := 6, attributes := #[] }, { accessFlags := 9, nameIndex := 42, descriptorIndex := 43, attributes := #[] }, { accessFlags := 10, nameIndex := 15, descriptorIndex := 16, attributes := #[] }, { accessFlags := 10, nameIndex := 19, descriptorIndex := 20, attributes := #[] }] 49 2 #[] #[])
  fields := #[]
  methods := #[k1m0, k1m1, k1m2, k1m3]
  instanceTypes := #[]
  staticTypes := #[]
  resolved := Array.replicate 47 none
  statics := none }

def pool2 : Array CpInfo := pool [(1, .class_ 2), (0, u "java/io/Serializable"), (0, .class_ 4), (0, u "java/lang/Object")] 2

/-- java/io/Serializable -/
def k2 : Class := { plain "java/io/Serializable" (some 0) with
  accessFlags := 1537
  interfaces := #[]
  cf := some (fileOf pool2 1 #[] #[] 1537 3 #[] #[])
  fields := #[]
  methods := #[]
  instanceTypes := #[]
  staticTypes := #[]
  resolved := Array.replicate 7 none
  statics := none }

def pool3 : Array CpInfo := pool [(1, .class_ 2), (0, u "java/lang/Comparable"), (0, .class_ 4), (0, u "java/lang/Object")] 7

/-- java/lang/Comparable -/
def k3 : Class := { plain "java/lang/Comparable" (some 0) with
  accessFlags := 1537
  interfaces := #[]
  cf := some (fileOf pool3 1 #[] #[] 1537 3 #[] #[])
  fields := #[]
  methods := #[]
  instanceTypes := #[]
  staticTypes := #[]
  resolved := Array.replicate 12 none
  statics := none }

def pool4 : Array CpInfo := pool [(2, .class_ 4), (1, u "java/lang/CharSequence"), (42, .class_ 48), (0, u "java/lang/CharSequence$1CodePointIterator"), (10, .class_ 60), (0, u "java/lang/CharSequence$1CharIterator"), (5, .class_ 67), (0, u "java/lang/Object")] 63

/-- java/lang/CharSequence -/
def k4 : Class := { plain "java/lang/CharSequence" (some 0) with
  accessFlags := 1537
  interfaces := #[]
  cf := some (fileOf pool4 2 #[.nestMembers #[47, 59]] #[] 1537 66 #[] #[])
  fields := #[]
  methods := #[]
  instanceTypes := #[]
  staticTypes := #[]
  resolved := Array.replicate 131 none
  statics := none }

def pool5 : Array CpInfo := pool [(1, .class_ 2), (0, u "java/lang/constant/Constable"), (0, .class_ 4), (0, u "java/lang/Object")] 6

/-- java/lang/constant/Constable -/
def k5 : Class := { plain "java/lang/constant/Constable" (some 0) with
  accessFlags := 1537
  interfaces := #[]
  cf := some (fileOf pool5 1 #[] #[] 1537 3 #[] #[])
  fields := #[]
  methods := #[]
  instanceTypes := #[]
  staticTypes := #[]
  resolved := Array.replicate 11 none
  statics := none }

def pool6 : Array CpInfo := pool [(1, .class_ 2), (0, u "java/lang/constant/ConstantDesc"), (0, .class_ 4), (0, u "java/lang/Object")] 32

/-- java/lang/constant/ConstantDesc -/
def k6 : Class := { plain "java/lang/constant/ConstantDesc" (some 0) with
  accessFlags := 1537
  interfaces := #[]
  cf := some (fileOf pool6 1 #[] #[] 1537 3 #[] #[])
  fields := #[]
  methods := #[]
  instanceTypes := #[]
  staticTypes := #[]
  resolved := Array.replicate 37 none
  statics := none }

def pool7 : Array CpInfo := pool [(1, .methodref 2 3), (0, .class_ 4), (0, .nameAndType 5 6), (0, u "java/lang/Object"), (0, u "<init>"), (0, u "()V"), (0, .string 8), (0, u ""), (0, .fieldref 10 11), (0, .class_ 12), (0, .nameAndType 13 14), (0, u "java/lang/String"), (0, u "value"), (0, u "[B"), (0, .fieldref 10 16), (0, .nameAndType 17 18), (0, u "coder"), (0, u "B"), (2, u "hash"), (0, u "I"), (2, u "hashIsZero"), (0, u "Z"), (0, .methodref 10 28), (0, .nameAndType 5 29), (0, u "([CIILjava/lang/Void;)V"), (8, .fieldref 10 39), (0, .nameAndType 40 26), (0, u "COMPACT_STRINGS"), (1, .class_ 44), (1, u "java/lang/StringUTF16"), (0, u "compress"), (1, .methodref 42 48), (0, .nameAndType 49 50), (0, u "coderFromArrayLen"), (0, u "([BI)B"), (56, .class_ 109), (1, u "java/lang/StringLatin1"), (32, u "()Z"), (34, .methodref 42 178), (0, .nameAndType 45 179), (0, u "([CII)[B"), (154, u "()I"), (0, .methodref 10 336), (0, .nameAndType 17 337), (0, u "()B"), (25, u "([BI)C"), (27, u "(II)V"), (35, u "(I)C"), (64, .methodref 10 493), (0, .nameAndType 494 142), (0, u "isLatin1"), (0, .methodref 107 496), (0, .nameAndType 497 363), (0, u "charAt"), (3, u "checkIndex"), (5, u "length"), (33, .methodref 107 542), (0, .nameAndType 543 544), (0, u "equals"), (0, u "([B[B)Z"), (28, u "(Ljava/lang/Object;)Z"), (1, .class_ 576), (0, u "java/lang/CharSequence"), (22, u "CASE_INSENSITIVE_ORDER"), (0, u "Ljava/util/Comparator;"), (409, u "([C)V"), (42, .fieldref 1054 1055), (0, .class_ 1056), (0, .nameAndType 1057 1058), (0, u "jdk/internal/util/Preconditions"), (0, u "SIOOBE_FORMATTER"), (0, u "Ljava/util/function/BiFunction;"), (0, .methodref 1054 1060), (0, .nameAndType 501 1061), (0, u "(IILjava/util/function/BiFunction;)I"), (39, u "serialPersistentFields"), (0, u "[Ljava/io/ObjectStreamField;"), (0, .class_ 1104), (0, u "java/lang/String$CaseInsensitiveComparator"), (1, .class_ 1107), (0, u "java/io/Serializable"), (0, .class_ 1109), (0, u "java/lang/Comparable"), (0, .class_ 1111), (0, u "java/lang/constant/Constable"), (0, .class_ 1113), (0, u "java/lang/constant/ConstantDesc"), (2, u "serialVersionUID"), (0, u "J"), (3, u "REPL"), (0, u "C"), (2, u "LATIN1"), (1, u "UTF16")] 323

def k7m0 : Method := { name := "<init>", desc := "()V", sig := { parameters := [], returnType := none }, accessFlags := 1, code := none }
def k7c1 : Code := { maxStack := 5, maxLocals := 2, code := jdk_42_method_3_code, exceptionTable := #[], attributes := #[] }
def k7m1 : Method := { name := "<init>", desc := "([C)V", sig := { parameters := [(.array .char)], returnType := none }, accessFlags := 1, code := some k7c1 }
def k7c2 : Code := { maxStack := 2, maxLocals := 1, code := jdk_42_method_54_code, exceptionTable := #[], attributes := #[] }
def k7m2 : Method := { name := "length", desc := "()I", sig := { parameters := [], returnType := some .int }, accessFlags := 1, code := some k7c2 }
def k7c3 : Code := { maxStack := 2, maxLocals := 2, code := jdk_42_method_56_code, exceptionTable := #[], attributes := #[] }
def k7m3 : Method := { name := "charAt", desc := "(I)C", sig := { parameters := [.int], returnType := some .char }, accessFlags := 1, code := some k7c3 }
def k7c4 : Code := { maxStack := 2, maxLocals := 3, code := jdk_42_method_66_code, exceptionTable := #[], attributes := #[] }
def k7m4 : Method := { name := "equals", desc := "(Ljava/lang/Object;)Z", sig := { parameters := [(.object "java/lang/Object")], returnType := some .boolean }, accessFlags := 1, code := some k7c4 }
def k7c5 : Code := { maxStack := 4, maxLocals := 6, code := jdk_42_method_149_code, exceptionTable := #[], attributes := #[] }
def k7m5 : Method := { name := "<init>", desc := "([CIILjava/lang/Void;)V", sig := { parameters := [(.array .char), .int, .int, (.object "java/lang/Void")], returnType := none }, accessFlags := 2, code := some k7c5 }
def k7c6 : Code := { maxStack := 1, maxLocals := 1, code := jdk_42_method_152_code, exceptionTable := #[], attributes := #[] }
def k7m6 : Method := { name := "coder", desc := "()B", sig := { parameters := [], returnType := some .byte }, accessFlags := 0, code := some k7c6 }
def k7c7 : Code := { maxStack := 1, maxLocals := 1, code := jdk_42_method_154_code, exceptionTable := #[], attributes := #[] }
def k7m7 : Method := { name := "isLatin1", desc := "()Z", sig := { parameters := [], returnType := some .boolean }, accessFlags := 0, code := some k7c7 }
def k7c8 : Code := { maxStack := 3, maxLocals := 2, code := jdk_42_method_155_code, exceptionTable := #[], attributes := #[] }
def k7m8 : Method := { name := "checkIndex", desc := "(II)V", sig := { parameters := [.int, .int], returnType := none }, accessFlags := 8, code := some k7c8 }
/-- java/lang/String -/
def k7 : Class := { plain "java/lang/String" (some 0) with
  accessFlags := 49
  interfaces := #[2, 3, 4, 5, 6]
  cf := some (fileOf pool7 10 #[.nestMembers #[1103]] #[{ accessFlags := 1, nameIndex := 5, descriptorIndex := 6, attributes := #[] }, { accessFlags := 1, nameIndex := 5, descriptorIndex := 1010, attributes := #[] }, { accessFlags := 1, nameIndex := 507, descriptorIndex := 334, attributes := #[] }, { accessFlags := 1, nameIndex := 497, descriptorIndex := 427, attributes := #[] }, { accessFlags := 1, nameIndex := 543, descriptorIndex := 573, attributes := #[] }, { accessFlags := 2, nameIndex := 5, descriptorIndex := 29, attributes := #[] }, { accessFlags := 0, nameIndex := 17, descriptorIndex := 337, attributes := #[] }, { accessFlags := 0, nameIndex := 494, descriptorIndex := 142, attributes := #[] }, { accessFlags := 8, nameIndex := 501, descriptorIndex := 391, attributes := #[] }] 49 2 #[1106, 1108, 575, 1110, 1112] #[{ accessFlags := 18, nameIndex := 13, descriptorIndex := 14, attributes := #[] }, { accessFlags := 18, nameIndex := 17, descriptorIndex := 18, attributes := #[] }, { accessFlags := 2, nameIndex := 21, descriptorIndex := 22, attributes := #[] }, { accessFlags := 2, nameIndex := 25, descriptorIndex := 26, attributes := #[] }, { accessFlags := 26, nameIndex := 1116, descriptorIndex := 1117, attributes := #[] }, { accessFlags := 24, nameIndex := 40, descriptorIndex := 26, attributes := #[] }, { accessFlags := 26, nameIndex := 1101, descriptorIndex := 1102, attributes := #[] }, { accessFlags := 26, nameIndex := 1121, descriptorIndex := 1122, attributes := #[] }, { accessFlags := 25, nameIndex := 599, descriptorIndex := 600, attributes := #[] }, { accessFlags := 24, nameIndex := 1125, descriptorIndex := 18, attributes := #[] }, { accessFlags := 24, nameIndex := 1127, descriptorIndex := 18, attributes := #[] }])
  fields := #[{ name := "value", type := (.array .byte), accessFlags := 18, slot := 0, constantValue := 0 }, { name := "coder", type := .byte, accessFlags := 18, slot := 1, constantValue := 0 }, { name := "hash", type := .int, accessFlags := 2, slot := 2, constantValue := 0 }, { name := "hashIsZero", type := .boolean, accessFlags := 2, slot := 3, constantValue := 0 }, { name := "serialVersionUID", type := .long, accessFlags := 26, slot := 0, constantValue := 0 }, { name := "COMPACT_STRINGS", type := .boolean, accessFlags := 24, slot := 1, constantValue := 0 }, { name := "serialPersistentFields", type := (.array (.object "java/io/ObjectStreamField")), accessFlags := 26, slot := 2, constantValue := 0 }, { name := "REPL", type := .char, accessFlags := 26, slot := 3, constantValue := 0 }, { name := "CASE_INSENSITIVE_ORDER", type := (.object "java/util/Comparator"), accessFlags := 25, slot := 4, constantValue := 0 }, { name := "LATIN1", type := .byte, accessFlags := 24, slot := 5, constantValue := 0 }, { name := "UTF16", type := .byte, accessFlags := 24, slot := 6, constantValue := 0 }]
  methods := #[k7m0, k7m1, k7m2, k7m3, k7m4, k7m5, k7m6, k7m7, k7m8]
  instanceTypes := #[(.array .byte), .byte, .int, .boolean]
  staticTypes := #[.long, .boolean, (.array (.object "java/io/ObjectStreamField")), .char, (.object "java/util/Comparator"), .byte, .byte]
  resolved := Array.replicate 1451 none
  statics := some 0 }

def pool8 : Array CpInfo := pool [(1, .class_ 2), (0, u "java/lang/String"), (1, .class_ 6), (1, u "java/lang/Object"), (0, u "<init>"), (0, u "()V"), (0, .methodref 1 10), (0, .nameAndType 11 12), (0, u "checkIndex"), (0, u "(II)V"), (1, .class_ 16), (1, u "java/lang/StringLatin1"), (36, u "([BI)C"), (67, u "$assertionsDisabled"), (0, u "Z"), (98, .class_ 223), (1, u "java/lang/StringLatin1$LinesSpliterator"), (28, u "charAt"), (28, u "equals"), (0, u "([B[B)Z"), (107, .class_ 391), (0, u "java/lang/StringLatin1$CharsSpliterator")] 3

def k8m0 : Method := { name := "<init>", desc := "()V", sig := { parameters := [], returnType := none }, accessFlags := 0, code := none }
def k8c1 : Code := { maxStack := 2, maxLocals := 2, code := jdk_43_method_2_code, exceptionTable := #[], attributes := #[] }
def k8m1 : Method := { name := "charAt", desc := "([BI)C", sig := { parameters := [(.array .byte), .int], returnType := some .char }, accessFlags := 9, code := some k8c1 }
def k8c2 : Code := { maxStack := 3, maxLocals := 3, code := jdk_43_method_13_code, exceptionTable := #[], attributes := #[] }
def k8m2 : Method := { name := "equals", desc := "([B[B)Z", sig := { parameters := [(.array .byte), (.array .byte)], returnType := some .boolean }, accessFlags := 9, code := some k8c2 }
/-- java/lang/StringLatin1 -/
def k8 : Class := { plain "java/lang/StringLatin1" (some 0) with
  accessFlags := 48
  interfaces := #[]
  cf := some (fileOf pool8 14 #[.nestMembers #[390, 221]] #[{ accessFlags := 0, nameIndex := 7, descriptorIndex := 8, attributes := #[] }, { accessFlags := 9, nameIndex := 252, descriptorIndex := 53, attributes := #[] }, { accessFlags := 9, nameIndex := 281, descriptorIndex := 282, attributes := #[] }] 48 4 #[] #[{ accessFlags := 4120, nameIndex := 121, descriptorIndex := 122, attributes := #[] }])
  fields := #[{ name := "$assertionsDisabled", type := .boolean, accessFlags := 4120, slot := 0, constantValue := 0 }]
  methods := #[k8m0, k8m1, k8m2]
  instanceTypes := #[]
  staticTypes := #[.boolean]
  resolved := Array.replicate 395 none
  statics := none }

def pool9 : Array CpInfo := pool [(2, .class_ 4), (1, u "java/lang/Object"), (0, u "<init>"), (0, u "()V"), (17, .class_ 26), (1, u "jdk/internal/util/Preconditions"), (6, u "checkIndex"), (21, .class_ 56), (0, u "jdk/internal/util/Preconditions$4"), (57, .class_ 115), (0, u "jdk/internal/util/Preconditions$1"), (7, u "SIOOBE_FORMATTER"), (0, u "Ljava/util/function/BiFunction;"), (0, .class_ 126), (0, u "jdk/internal/util/Preconditions$2"), (3, u "AIOOBE_FORMATTER"), (0, .class_ 132), (0, u "jdk/internal/util/Preconditions$3"), (3, u "IOOBE_FORMATTER"), (41, u "(IILjava/util/function/BiFunction;)I")] 15

def k9m0 : Method := { name := "<init>", desc := "()V", sig := { parameters := [], returnType := none }, accessFlags := 1, code := none }
def k9c1 : Code := { maxStack := 3, maxLocals := 3, code := jdk_41_method_11_code, exceptionTable := #[], attributes := #[] }
def k9m1 : Method := { name := "checkIndex", desc := "(IILjava/util/function/BiFunction;)I", sig := { parameters := [.int, .int, (.object "java/util/function/BiFunction")], returnType := some .int }, accessFlags := 9, code := some k9c1 }
/-- jdk/internal/util/Preconditions -/
def k9 : Class := { plain "jdk/internal/util/Preconditions" (some 0) with
  accessFlags := 33
  interfaces := #[]
  cf := some (fileOf pool9 24 #[.nestMembers #[55, 131, 125, 114]] #[{ accessFlags := 1, nameIndex := 5, descriptorIndex := 6, attributes := #[] }, { accessFlags := 9, nameIndex := 33, descriptorIndex := 178, attributes := #[] }] 33 2 #[] #[{ accessFlags := 25, nameIndex := 123, descriptorIndex := 124, attributes := #[] }, { accessFlags := 25, nameIndex := 130, descriptorIndex := 124, attributes := #[] }, { accessFlags := 25, nameIndex := 136, descriptorIndex := 124, attributes := #[] }])
  fields := #[{ name := "SIOOBE_FORMATTER", type := (.object "java/util/function/BiFunction"), accessFlags := 25, slot := 0, constantValue := 0 }, { name := "AIOOBE_FORMATTER", type := (.object "java/util/function/BiFunction"), accessFlags := 25, slot := 1, constantValue := 0 }, { name := "IOOBE_FORMATTER", type := (.object "java/util/function/BiFunction"), accessFlags := 25, slot := 2, constantValue := 0 }]
  methods := #[k9m0, k9m1]
  instanceTypes := #[]
  staticTypes := #[(.object "java/util/function/BiFunction"), (.object "java/util/function/BiFunction"), (.object "java/util/function/BiFunction")]
  resolved := Array.replicate 194 none
  statics := some 1 }

def pool10 : Array CpInfo := pool [(6, .class_ 8), (1, u "java/lang/Object"), (0, u "<init>"), (0, u "()V"), (1, .class_ 14), (1, u "java/lang/StringUTF16"), (31, u "$assertionsDisabled"), (0, u "Z"), (13, u "HI_BYTE_SHIFT"), (0, u "I"), (2, u "LO_BYTE_SHIFT"), (49, .methodref 12 116), (0, .nameAndType 117 118), (0, u "compress"), (0, u "([CI[BII)I"), (3, u "([CII)[B"), (138, u "coderFromArrayLen"), (0, u "([BI)B"), (106, .class_ 371), (1, u "java/lang/StringUTF16$LinesSpliterator"), (58, u "MAX_LENGTH"), (196, .class_ 628), (0, u "java/lang/StringUTF16$CodePointsSpliterator"), (0, .class_ 630), (0, u "java/lang/StringUTF16$CharsSpliterator")] 4

def k10m0 : Method := { name := "<init>", desc := "()V", sig := { parameters := [], returnType := none }, accessFlags := 0, code := none }
def k10c1 : Code := { maxStack := 2, maxLocals := 2, code := jdk_52_method_15_code, exceptionTable := #[], attributes := #[] }
def k10m1 : Method := { name := "coderFromArrayLen", desc := "([BI)B", sig := { parameters := [(.array .byte), .int], returnType := some .byte }, accessFlags := 8, code := some k10c1 }
def k10c2 : Code := { maxStack := 5, maxLocals := 6, code := jdk_52_method_16_code, exceptionTable := #[], attributes := #[] }
def k10m2 : Method := { name := "compress", desc := "([CII)[B", sig := { parameters := [(.array .char), .int, .int], returnType := some (.array .byte) }, accessFlags := 9, code := some k10c2 }
def k10c3 : Code := { maxStack := 3, maxLocals := 7, code := jdk_52_method_21_code, exceptionTable := #[], attributes := #[] }
def k10m3 : Method := { name := "compress", desc := "([CI[BII)I", sig := { parameters := [(.array .char), .int, (.array .byte), .int, .int], returnType := some .int }, accessFlags := 9, code := some k10c3 }
/-- java/lang/StringUTF16 -/
def k10 : Class := { plain "java/lang/StringUTF16" (some 0) with
  accessFlags := 48
  interfaces := #[]
  cf := some (fileOf pool10 12 #[.nestMembers #[627, 629, 369]] #[{ accessFlags := 0, nameIndex := 9, descriptorIndex := 10, attributes := #[] }, { accessFlags := 8, nameIndex := 261, descriptorIndex := 262, attributes := #[] }, { accessFlags := 9, nameIndex := 117, descriptorIndex := 122, attributes := #[] }, { accessFlags := 9, nameIndex := 117, descriptorIndex := 118, attributes := #[] }] 48 6 #[] #[{ accessFlags := 26, nameIndex := 61, descriptorIndex := 62, attributes := #[] }, { accessFlags := 26, nameIndex := 65, descriptorIndex := 62, attributes := #[] }, { accessFlags := 24, nameIndex := 430, descriptorIndex := 62, attributes := #[] }, { accessFlags := 4120, nameIndex := 46, descriptorIndex := 47, attributes := #[] }])
  fields := #[{ name := "HI_BYTE_SHIFT", type := .int, accessFlags := 26, slot := 0, constantValue := 0 }, { name := "LO_BYTE_SHIFT", type := .int, accessFlags := 26, slot := 1, constantValue := 0 }, { name := "MAX_LENGTH", type := .int, accessFlags := 24, slot := 2, constantValue := 0 }, { name := "$assertionsDisabled", type := .boolean, accessFlags := 4120, slot := 3, constantValue := 0 }]
  methods := #[k10m0, k10m1, k10m2, k10m3]
  instanceTypes := #[]
  staticTypes := #[.int, .int, .int, .boolean]
  resolved := Array.replicate 635 none
  statics := none }

def pool11 : Array CpInfo := pool [(2, .class_ 4), (1, u "com/example/heronbus/heronbus/stomp/Frame"), (0, u "NO_BODY"), (0, u "[B"), (13, .class_ 21), (0, u "java/lang/Object"), (2, u "command"), (0, u "Ljava/lang/String;"), (2, u "headers"), (0, u "Ljava/util/Map;"), (2, u "body"), (2, u "isConnect"), (0, u "(Ljava/lang/String;)Z"), (2, .methodref 40 41), (0, .class_ 42), (0, .nameAndType 43 44), (0, u "java/lang/String"), (0, u "equals"), (0, u "(Ljava/lang/Object;)Z"), (0, .string 46), (0, u "CONNECT"), (0, .string 48), (0, u "STOMP"), (80, u "ACCEPT_VERSION"), (3, u "ACK"), (2, u "CLIENT_ID"), (2, u "CONTENT_LENGTH"), (2, u "DESTINATION"), (2, u "DURABLE"), (2, u "HEART_BEAT"), (2, u "HOST"), (2, u "ID"), (2, u "LOGIN"), (2, u "MESSAGE"), (2, u "MESSAGE_ID"), (2, u "PASSCODE"), (2, u "PERSISTENT"), (2, u "PREFETCH_COUNT"), (2, u "RECEIPT"), (2, u "RECEIPT_ID"), (2, u "REDELIVERED"), (2, u "SELECTOR"), (2, u "SERVER"), (2, u "SUBSCRIPTION"), (2, u "SUBSCRIPTION_NAME"), (2, u "TRANSACTION"), (2, u "VERSION")] 44

def k11c0 : Code := { maxStack := 2, maxLocals := 1, code := prog_113_method_5_code, exceptionTable := #[], attributes := #[] }
def k11m0 : Method := { name := "isConnect", desc := "(Ljava/lang/String;)Z", sig := { parameters := [(.object "java/lang/String")], returnType := some .boolean }, accessFlags := 8, code := some k11c0 }
/-- com/example/heronbus/heronbus/stomp/Frame -/
def k11 : Class := { plain "com/example/heronbus/heronbus/stomp/Frame" (some 0) with
  accessFlags := 48
  interfaces := #[]
  cf := some (fileOf pool11 2 #[] #[{ accessFlags := 8, nameIndex := 35, descriptorIndex := 36, attributes := #[] }] 48 20 #[] #[{ accessFlags := 24, nameIndex := 129, descriptorIndex := 25, attributes := #[] }, { accessFlags := 24, nameIndex := 133, descriptorIndex := 25, attributes := #[] }, { accessFlags := 24, nameIndex := 136, descriptorIndex := 25, attributes := #[] }, { accessFlags := 24, nameIndex := 139, descriptorIndex := 25, attributes := #[] }, { accessFlags := 24, nameIndex := 142, descriptorIndex := 25, attributes := #[] }, { accessFlags := 24, nameIndex := 145, descriptorIndex := 25, attributes := #[] }, { accessFlags := 24, nameIndex := 148, descriptorIndex := 25, attributes := #[] }, { accessFlags := 24, nameIndex := 151, descriptorIndex := 25, attributes := #[] }, { accessFlags := 24, nameIndex := 154, descriptorIndex := 25, attributes := #[] }, { accessFlags := 24, nameIndex := 157, descriptorIndex := 25, attributes := #[] }, { accessFlags := 24, nameIndex := 160, descriptorIndex := 25, attributes := #[] }, { accessFlags := 24, nameIndex := 163, descriptorIndex := 25, attributes := #[] }, { accessFlags := 24, nameIndex := 166, descriptorIndex := 25, attributes := #[] }, { accessFlags := 24, nameIndex := 169, descriptorIndex := 25, attributes := #[] }, { accessFlags := 24, nameIndex := 172, descriptorIndex := 25, attributes := #[] }, { accessFlags := 24, nameIndex := 175, descriptorIndex := 25, attributes := #[] }, { accessFlags := 24, nameIndex := 178, descriptorIndex := 25, attributes := #[] }, { accessFlags := 24, nameIndex := 181, descriptorIndex := 25, attributes := #[] }, { accessFlags := 24, nameIndex := 184, descriptorIndex := 25, attributes := #[] }, { accessFlags := 24, nameIndex := 187, descriptorIndex := 25, attributes := #[] }, { accessFlags := 24, nameIndex := 190, descriptorIndex := 25, attributes := #[] }, { accessFlags := 24, nameIndex := 193, descriptorIndex := 25, attributes := #[] }, { accessFlags := 24, nameIndex := 196, descriptorIndex := 25, attributes := #[] }, { accessFlags := 24, nameIndex := 199, descriptorIndex := 25, attributes := #[] }, { accessFlags := 26, nameIndex := 5, descriptorIndex := 6, attributes := #[] }, { accessFlags := 18, nameIndex := 24, descriptorIndex := 25, attributes := #[] }, { accessFlags := 18, nameIndex := 28, descriptorIndex := 29, attributes := #[] }, { accessFlags := 18, nameIndex := 32, descriptorIndex := 6, attributes := #[] }])
  fields := #[{ name := "ACCEPT_VERSION", type := (.object "java/lang/String"), accessFlags := 24, slot := 0, constantValue := 0 }, { name := "ACK", type := (.object "java/lang/String"), accessFlags := 24, slot := 1, constantValue := 0 }, { name := "CLIENT_ID", type := (.object "java/lang/String"), accessFlags := 24, slot := 2, constantValue := 0 }, { name := "CONTENT_LENGTH", type := (.object "java/lang/String"), accessFlags := 24, slot := 3, constantValue := 0 }, { name := "DESTINATION", type := (.object "java/lang/String"), accessFlags := 24, slot := 4, constantValue := 0 }, { name := "DURABLE", type := (.object "java/lang/String"), accessFlags := 24, slot := 5, constantValue := 0 }, { name := "HEART_BEAT", type := (.object "java/lang/String"), accessFlags := 24, slot := 6, constantValue := 0 }, { name := "HOST", type := (.object "java/lang/String"), accessFlags := 24, slot := 7, constantValue := 0 }, { name := "ID", type := (.object "java/lang/String"), accessFlags := 24, slot := 8, constantValue := 0 }, { name := "LOGIN", type := (.object "java/lang/String"), accessFlags := 24, slot := 9, constantValue := 0 }, { name := "MESSAGE", type := (.object "java/lang/String"), accessFlags := 24, slot := 10, constantValue := 0 }, { name := "MESSAGE_ID", type := (.object "java/lang/String"), accessFlags := 24, slot := 11, constantValue := 0 }, { name := "PASSCODE", type := (.object "java/lang/String"), accessFlags := 24, slot := 12, constantValue := 0 }, { name := "PERSISTENT", type := (.object "java/lang/String"), accessFlags := 24, slot := 13, constantValue := 0 }, { name := "PREFETCH_COUNT", type := (.object "java/lang/String"), accessFlags := 24, slot := 14, constantValue := 0 }, { name := "RECEIPT", type := (.object "java/lang/String"), accessFlags := 24, slot := 15, constantValue := 0 }, { name := "RECEIPT_ID", type := (.object "java/lang/String"), accessFlags := 24, slot := 16, constantValue := 0 }, { name := "REDELIVERED", type := (.object "java/lang/String"), accessFlags := 24, slot := 17, constantValue := 0 }, { name := "SELECTOR", type := (.object "java/lang/String"), accessFlags := 24, slot := 18, constantValue := 0 }, { name := "SERVER", type := (.object "java/lang/String"), accessFlags := 24, slot := 19, constantValue := 0 }, { name := "SUBSCRIPTION", type := (.object "java/lang/String"), accessFlags := 24, slot := 20, constantValue := 0 }, { name := "SUBSCRIPTION_NAME", type := (.object "java/lang/String"), accessFlags := 24, slot := 21, constantValue := 0 }, { name := "TRANSACTION", type := (.object "java/lang/String"), accessFlags := 24, slot := 22, constantValue := 0 }, { name := "VERSION", type := (.object "java/lang/String"), accessFlags := 24, slot := 23, constantValue := 0 }, { name := "NO_BODY", type := (.array .byte), accessFlags := 26, slot := 24, constantValue := 0 }, { name := "command", type := (.object "java/lang/String"), accessFlags := 18, slot := 0, constantValue := 0 }, { name := "headers", type := (.object "java/util/Map"), accessFlags := 18, slot := 1, constantValue := 0 }, { name := "body", type := (.array .byte), accessFlags := 18, slot := 2, constantValue := 0 }]
  methods := #[k11m0]
  instanceTypes := #[(.object "java/lang/String"), (.object "java/util/Map"), (.array .byte)]
  staticTypes := #[(.object "java/lang/String"), (.object "java/lang/String"), (.object "java/lang/String"), (.object "java/lang/String"), (.object "java/lang/String"), (.object "java/lang/String"), (.object "java/lang/String"), (.object "java/lang/String"), (.object "java/lang/String"), (.object "java/lang/String"), (.object "java/lang/String"), (.object "java/lang/String"), (.object "java/lang/String"), (.object "java/lang/String"), (.object "java/lang/String"), (.object "java/lang/String"), (.object "java/lang/String"), (.object "java/lang/String"), (.object "java/lang/String"), (.object "java/lang/String"), (.object "java/lang/String"), (.object "java/lang/String"), (.object "java/lang/String"), (.object "java/lang/String"), (.array .byte)]
  resolved := Array.replicate 244 none
  statics := none }

def pool12 : Array CpInfo := pool [(9, u "<init>"), (6, .class_ 18), (1, u "java/lang/Object"), (0, u "()V"), (1, .class_ 23), (1, u "jdk/internal/util/ArraysSupport"), (0, u "LOG2_ARRAY_LONG_INDEX_SCALE"), (0, u "I"), (2, u "U"), (0, u "Ljdk/internal/misc/Unsafe;"), (8, u "BIG_ENDIAN"), (0, u "Z"), (8, u "LOG2_BYTE_BIT_SIZE"), (4, u "LOG2_ARRAY_INT_INDEX_SCALE"), (54, u "JLA"), (0, u "Ljdk/internal/access/JavaLangAccess;"), (11, u "LOG2_ARRAY_BOOLEAN_INDEX_SCALE"), (9, u "LOG2_ARRAY_BYTE_INDEX_SCALE"), (5, u "LOG2_ARRAY_CHAR_INDEX_SCALE"), (5, u "LOG2_ARRAY_SHORT_INDEX_SCALE"), (18, u "LOG2_ARRAY_FLOAT_INDEX_SCALE"), (24, u "LOG2_ARRAY_DOUBLE_INDEX_SCALE"), (89, u "T_BOOLEAN"), (2, u "T_CHAR"), (1, u "T_FLOAT"), (1, u "T_DOUBLE"), (1, u "T_BYTE"), (1, u "T_SHORT"), (1, u "T_INT"), (1, u "T_LONG"), (1, u "SOFT_MAX_ARRAY_LENGTH")] 83

def k12m0 : Method := { name := "<init>", desc := "()V", sig := { parameters := [], returnType := none }, accessFlags := 2, code := none }
/-- jdk/internal/util/ArraysSupport -/
def k12 : Class := { plain "jdk/internal/util/ArraysSupport" (some 0) with
  accessFlags := 33
  interfaces := #[]
  cf := some (fileOf pool12 21 #[] #[{ accessFlags := 2, nameIndex := 9, descriptorIndex := 19, attributes := #[] }] 33 16 #[] #[{ accessFlags := 24, nameIndex := 28, descriptorIndex := 29, attributes := #[] }, { accessFlags := 26, nameIndex := 38, descriptorIndex := 39, attributes := #[] }, { accessFlags := 25, nameIndex := 121, descriptorIndex := 25, attributes := #[] }, { accessFlags := 25, nameIndex := 131, descriptorIndex := 25, attributes := #[] }, { accessFlags := 25, nameIndex := 137, descriptorIndex := 25, attributes := #[] }, { accessFlags := 25, nameIndex := 143, descriptorIndex := 25, attributes := #[] }, { accessFlags := 25, nameIndex := 53, descriptorIndex := 25, attributes := #[] }, { accessFlags := 25, nameIndex := 24, descriptorIndex := 25, attributes := #[] }, { accessFlags := 25, nameIndex := 162, descriptorIndex := 25, attributes := #[] }, { accessFlags := 25, nameIndex := 187, descriptorIndex := 25, attributes := #[] }, { accessFlags := 26, nameIndex := 48, descriptorIndex := 25, attributes := #[] }, { accessFlags := 25, nameIndex := 277, descriptorIndex := 25, attributes := #[] }, { accessFlags := 25, nameIndex := 280, descriptorIndex := 25, attributes := #[] }, { accessFlags := 25, nameIndex := 282, descriptorIndex := 25, attributes := #[] }, { accessFlags := 25, nameIndex := 284, descriptorIndex := 25, attributes := #[] }, { accessFlags := 25, nameIndex := 286, descriptorIndex := 25, attributes := #[] }, { accessFlags := 25, nameIndex := 288, descriptorIndex := 25, attributes := #[] }, { accessFlags := 25, nameIndex := 290, descriptorIndex := 25, attributes := #[] }, { accessFlags := 25, nameIndex := 292, descriptorIndex := 25, attributes := #[] }, { accessFlags := 26, nameIndex := 108, descriptorIndex := 109, attributes := #[] }, { accessFlags := 25, nameIndex := 294, descriptorIndex := 25, attributes := #[] }])
  fields := #[{ name := "U", type := (.object "jdk/internal/misc/Unsafe"), accessFlags := 24, slot := 0, constantValue := 0 }, { name := "BIG_ENDIAN", type := .boolean, accessFlags := 26, slot := 1, constantValue := 0 }, { name := "LOG2_ARRAY_BOOLEAN_INDEX_SCALE", type := .int, accessFlags := 25, slot := 2, constantValue := 0 }, { name := "LOG2_ARRAY_BYTE_INDEX_SCALE", type := .int, accessFlags := 25, slot := 3, constantValue := 0 }, { name := "LOG2_ARRAY_CHAR_INDEX_SCALE", type := .int, accessFlags := 25, slot := 4, constantValue := 0 }, { name := "LOG2_ARRAY_SHORT_INDEX_SCALE", type := .int, accessFlags := 25, slot := 5, constantValue := 0 }, { name := "LOG2_ARRAY_INT_INDEX_SCALE", type := .int, accessFlags := 25, slot := 6, constantValue := 0 }, { name := "LOG2_ARRAY_LONG_INDEX_SCALE", type := .int, accessFlags := 25, slot := 7, constantValue := 0 }, { name := "LOG2_ARRAY_FLOAT_INDEX_SCALE", type := .int, accessFlags := 25, slot := 8, constantValue := 0 }, { name := "LOG2_ARRAY_DOUBLE_INDEX_SCALE", type := .int, accessFlags := 25, slot := 9, constantValue := 0 }, { name := "LOG2_BYTE_BIT_SIZE", type := .int, accessFlags := 26, slot := 10, constantValue := 0 }, { name := "T_BOOLEAN", type := .int, accessFlags := 25, slot := 11, constantValue := 0 }, { name := "T_CHAR", type := .int, accessFlags := 25, slot := 12, constantValue := 0 }, { name := "T_FLOAT", type := .int, accessFlags := 25, slot := 13, constantValue := 0 }, { name := "T_DOUBLE", type := .int, accessFlags := 25, slot := 14, constantValue := 0 }, { name := "T_BYTE", type := .int, accessFlags := 25, slot := 15, constantValue := 0 }, { name := "T_SHORT", type := .int, accessFlags := 25, slot := 16, constantValue := 0 }, { name := "T_INT", type := .int, accessFlags := 25, slot := 17, constantValue := 0 }, { name := "T_LONG", type := .int, accessFlags := 25, slot := 18, constantValue := 0 }, { name := "JLA", type := (.object "jdk/internal/access/JavaLangAccess"), accessFlags := 26, slot := 19, constantValue := 0 }, { name := "SOFT_MAX_ARRAY_LENGTH", type := .int, accessFlags := 25, slot := 20, constantValue := 0 }]
  methods := #[k12m0]
  instanceTypes := #[]
  staticTypes := #[(.object "jdk/internal/misc/Unsafe"), .boolean, .int, .int, .int, .int, .int, .int, .int, .int, .int, .int, .int, .int, .int, .int, .int, .int, .int, (.object "jdk/internal/access/JavaLangAccess"), .int]
  resolved := Array.replicate 378 none
  statics := none }

def pool13 : Array CpInfo := pool [(1, u "java/lang/Cloneable"), (0, .class_ 1), (0, u "java/lang/Object"), (0, .class_ 3)] 3

/-- java/lang/Cloneable -/
def k13 : Class := { plain "java/lang/Cloneable" (some 0) with
  accessFlags := 1537
  interfaces := #[]
  cf := some (fileOf pool13 2 #[] #[] 1537 4 #[] #[])
  fields := #[]
  methods := #[]
  instanceTypes := #[]
  staticTypes := #[]
  resolved := Array.replicate 8 none
  statics := none }

/-- the primitive byte -/
def k14 : Class := { plain "byte" none with kind := .primitive 'B', accessFlags := 0x411 }
/-- [B -/
def k15 : Class := { plain "[B" (some 0) with kind := .array 14 .byte, interfaces := #[13, 2], accessFlags := 1041 }

/-- the primitive char -/
def k16 : Class := { plain "char" none with kind := .primitive 'C', accessFlags := 0x411 }
/-- [C -/
def k17 : Class := { plain "[C" (some 0) with kind := .array 16 .char, interfaces := #[13, 2], accessFlags := 1041 }

def heap : Heap := #[{ cls := 7, slots := #[.long 0, .int 1, .null, .int 0, .null, .int 0, .int 0], vm := .statics 7 },
  { cls := 9, slots := #[.null, .null, .null], vm := .statics 9 }]
def classes : Array Class := #[k0, k1, k2, k3, k4, k5, k6, k7, k8, k9, k10, k11, k12, k13, k14, k15, k16, k17]
def interned : List (Array UInt16 × Addr) := []
def slotsUsed : Nat := 10
def theMethod : MethodId := ⟨1, 1⟩
def args0 : Array Value := #[.int 1, .int 2, .int 3, .int 4, .int 5]
def aboutOver (below : List Frame) : State where
  vm := { classes := classes, interned := interned.toArray }
  heap := heap
  slotsUsed := slotsUsed
  threads := #[{ frames := .invoking theMethod args0 :: below }]
def below0 : List Frame := [.native { method := ⟨0, 0⟩, args := #[] }]
def about1 : State := aboutOver below0
def p0 : Program := .bare "" "" ""
def e0 : Env := launch0.env 0 0 0
theorem w_frames : about1.frames = Frame.invoking theMethod args0 :: below0 := rfl
set_option maxRecDepth 65536 in
theorem w_args : argsFit about1.vm theMethod args0 = true := by decide +kernel
set_option maxRecDepth 65536 in
theorem w_heap : heapFits about1 = true := by decide +kernel
set_option maxRecDepth 65536 in
theorem w_runnable : about1.curStatus? = some .runnable := by decide +kernel
set_option maxRecDepth 65536 in
theorem w_alone : about1.alone = true := by decide +kernel
set_option maxRecDepth 65536 in
theorem w_named : about1.methodNamed? x = some theMethod := by decide +kernel
set_option maxRecDepth 65536 in
theorem w_hears : about1.hears theMethod below0 = true := by decide +kernel
set_option maxRecDepth 65536 in
theorem w_ripe : about1.ripe theMethod args0 below0 = true := by decide +kernel
theorem w_running : about1.status = .running := rfl
set_option maxRecDepth 65536 in
theorem w_room : about1.hasRoom e0.platform room_1 = true :=
  launch0.hasRoom_least _ room_1 (by decide +kernel) (by decide +kernel) (by decide +kernel) (by decide +kernel) (by decide +kernel) (by decide +kernel)
theorem allAtoms_all (ts : List Jvm.Cond) (a : Array Jvm.Value) (st : Jvm.State) : (allAtoms ts).before a st = ts.all (fun c => c.before a st) := by
  induction ts with
  | nil => rfl
  | cons c t ih =>
    show (Jvm.Cond.and c (allAtoms t)).before a st = _
    rw [Jvm.Cond.before_and, ih, List.all_cons]
def words1 : List Jvm.Cond := Jvm.Cond.code x code maxLocals ret :: tables_1
/-- a 'code' word, met by the world's own term for the bytes: nothing is compared byte by byte -/
theorem code_word {y : MethodName} {bytes : ByteArray} {mx : Nat} {rt : Option FieldType} {a : Array Value} {s : State} {m : MethodId} {meth : Method} {c : Code} (h1 : s.methodNamed? y = some m) (h2 : s.vm.method? m = some meth) (h3 : meth.code = some c) (h4 : c.code = bytes)
    (h5 : (c.maxLocals == mx && c.exceptionTable.isEmpty && decide (c.maxStack ≤ mostOperands) && decide (meth.sig.returnType = rt) && !meth.locks && decide (parseMethodDescriptor y.desc = some meth.sig)) = true) : (Jvm.Cond.code y bytes mx rt).before a s = true := by
  simp only [Bool.and_eq_true, beq_iff_eq, Bool.not_eq_true', decide_eq_true_eq] at h5
  obtain ⟨⟨⟨⟨⟨g1, g2⟩, g3⟩, g4⟩, g5⟩, g6⟩ := h5
  simp [Cond.before, Cond.holds, Cond.value, h1, h2, h3, h4, g1, g2, g3, g4, g5, g6]
def isCode : Jvm.Cond → Bool
  | .code _ _ _ _ => true
  | _ => false
theorem all_split {L : List Jvm.Cond} {P : Jvm.Cond → Bool} (h1 : L.all (fun c => isCode c || P c) = true) (h2 : ∀ c ∈ L.filter isCode, P c = true) : L.all P = true := by
  refine List.all_eq_true.mpr fun c hc => ?_
  have h := List.all_eq_true.mp h1 c hc
  rcases Bool.eq_false_or_eq_true (isCode c) with hi | hi
  · exact h2 c (List.mem_filter.mpr ⟨hc, hi⟩)
  · simpa [hi] using h
set_option maxRecDepth 65536 in
theorem w_c0 : (Jvm.Cond.code x code maxLocals ret).before args0 about1 = true := code_word (m := ⟨1, 1⟩) (meth := k1m1) (c := k1c1) (by decide +kernel) rfl rfl rfl (by decide +kernel)
set_option maxRecDepth 65536 in
theorem w_c1 : (Jvm.Cond.code ({ cls := "com/example/heronbus/heronbus/stomp/FrameIsConnectPinLaw", name := "pick", desc := "(Ljava/lang/String;IIZCC)C" } : Jvm.MethodName) method_3_code (6 : Nat) (Option.some Jvm.ClassFile.FieldType.char)).before args0 about1 = true := code_word (m := ⟨1, 2⟩) (meth := k1m2) (c := k1c2) (by decide +kernel) rfl rfl rfl (by decide +kernel)
set_option maxRecDepth 65536 in
theorem w_c2 : (Jvm.Cond.code ({ cls := "java/lang/String", name := "length", desc := "()I" } : Jvm.MethodName) jdk_42_method_54_code (1 : Nat) (Option.some Jvm.ClassFile.FieldType.int)).before args0 about1 = true := code_word (m := ⟨7, 2⟩) (meth := k7m2) (c := k7c2) (by decide +kernel) rfl rfl rfl (by decide +kernel)
set_option maxRecDepth 65536 in
theorem w_c3 : (Jvm.Cond.code ({ cls := "java/lang/String", name := "coder", desc := "()B" } : Jvm.MethodName) jdk_42_method_152_code (1 : Nat) (Option.some Jvm.ClassFile.FieldType.byte)).before args0 about1 = true := code_word (m := ⟨7, 6⟩) (meth := k7m6) (c := k7c6) (by decide +kernel) rfl rfl rfl (by decide +kernel)
set_option maxRecDepth 65536 in
theorem w_c4 : (Jvm.Cond.code ({ cls := "java/lang/String", name := "charAt", desc := "(I)C" } : Jvm.MethodName) jdk_42_method_56_code (2 : Nat) (Option.some Jvm.ClassFile.FieldType.char)).before args0 about1 = true := code_word (m := ⟨7, 3⟩) (meth := k7m3) (c := k7c3) (by decide +kernel) rfl rfl rfl (by decide +kernel)
set_option maxRecDepth 65536 in
theorem w_c5 : (Jvm.Cond.code ({ cls := "java/lang/String", name := "isLatin1", desc := "()Z" } : Jvm.MethodName) jdk_42_method_154_code (1 : Nat) (Option.some Jvm.ClassFile.FieldType.boolean)).before args0 about1 = true := code_word (m := ⟨7, 7⟩) (meth := k7m7) (c := k7c7) (by decide +kernel) rfl rfl rfl (by decide +kernel)
set_option maxRecDepth 65536 in
theorem w_c6 : (Jvm.Cond.code ({ cls := "java/lang/StringLatin1", name := "charAt", desc := "([BI)C" } : Jvm.MethodName) jdk_43_method_2_code (2 : Nat) (Option.some Jvm.ClassFile.FieldType.char)).before args0 about1 = true := code_word (m := ⟨8, 1⟩) (meth := k8m1) (c := k8c1) (by decide +kernel) rfl rfl rfl (by decide +kernel)
set_option maxRecDepth 65536 in
theorem w_c7 : (Jvm.Cond.code ({ cls := "java/lang/String", name := "checkIndex", desc := "(II)V" } : Jvm.MethodName) jdk_42_method_155_code (2 : Nat) (Option.none : Option Jvm.ClassFile.FieldType)).before args0 about1 = true := code_word (m := ⟨7, 8⟩) (meth := k7m8) (c := k7c8) (by decide +kernel) rfl rfl rfl (by decide +kernel)
set_option maxRecDepth 65536 in
theorem w_c8 : (Jvm.Cond.code ({ cls := "jdk/internal/util/Preconditions", name := "checkIndex", desc := "(IILjava/util/function/BiFunction;)I" } : Jvm.MethodName) jdk_41_method_11_code (3 : Nat) (Option.some Jvm.ClassFile.FieldType.int)).before args0 about1 = true := code_word (m := ⟨9, 1⟩) (meth := k9m1) (c := k9c1) (by decide +kernel) rfl rfl rfl (by decide +kernel)
set_option maxRecDepth 65536 in
theorem w_c9 : (Jvm.Cond.code ({ cls := "com/example/heronbus/heronbus/stomp/FrameIsConnectPinLaw", name := "make", desc := "(ICCCCCCCCC)Ljava/lang/String;" } : Jvm.MethodName) method_4_code (10 : Nat) (Option.some (Jvm.ClassFile.FieldType.object "java/lang/String"))).before args0 about1 = true := code_word (m := ⟨1, 3⟩) (meth := k1m3) (c := k1c3) (by decide +kernel) rfl rfl rfl (by decide +kernel)
set_option maxRecDepth 65536 in
theorem w_c10 : (Jvm.Cond.code ({ cls := "java/lang/String", name := "<init>", desc := "([C)V" } : Jvm.MethodName) jdk_42_method_3_code (2 : Nat) (Option.none : Option Jvm.ClassFile.FieldType)).before args0 about1 = true := code_word (m := ⟨7, 1⟩) (meth := k7m1) (c := k7c1) (by decide +kernel) rfl rfl rfl (by decide +kernel)
set_option maxRecDepth 65536 in
theorem w_c11 : (Jvm.Cond.code ({ cls := "java/lang/String", name := "<init>", desc := "([CIILjava/lang/Void;)V" } : Jvm.MethodName) jdk_42_method_149_code (6 : Nat) (Option.none : Option Jvm.ClassFile.FieldType)).before args0 about1 = true := code_word (m := ⟨7, 5⟩) (meth := k7m5) (c := k7c5) (by decide +kernel) rfl rfl rfl (by decide +kernel)
set_option maxRecDepth 65536 in
theorem w_c12 : (Jvm.Cond.code ({ cls := "java/lang/Object", name := "<init>", desc := "()V" } : Jvm.MethodName) object_method_1_code (1 : Nat) (Option.none : Option Jvm.ClassFile.FieldType)).before args0 about1 = true := code_word (m := ⟨0, 0⟩) (meth := k0m0) (c := k0c0) (by decide +kernel) rfl rfl rfl (by decide +kernel)
set_option maxRecDepth 65536 in
theorem w_c13 : (Jvm.Cond.code ({ cls := "java/lang/StringUTF16", name := "compress", desc := "([CII)[B" } : Jvm.MethodName) jdk_52_method_16_code (6 : Nat) (Option.some (Jvm.ClassFile.FieldType.array Jvm.ClassFile.FieldType.byte))).before args0 about1 = true := code_word (m := ⟨10, 2⟩) (meth := k10m2) (c := k10c2) (by decide +kernel) rfl rfl rfl (by decide +kernel)
set_option maxRecDepth 65536 in
theorem w_c14 : (Jvm.Cond.code ({ cls := "java/lang/StringUTF16", name := "compress", desc := "([CI[BII)I" } : Jvm.MethodName) jdk_52_method_21_code (7 : Nat) (Option.some Jvm.ClassFile.FieldType.int)).before args0 about1 = true := code_word (m := ⟨10, 3⟩) (meth := k10m3) (c := k10c3) (by decide +kernel) rfl rfl rfl (by decide +kernel)
set_option maxRecDepth 65536 in
theorem w_c15 : (Jvm.Cond.code ({ cls := "java/lang/StringUTF16", name := "coderFromArrayLen", desc := "([BI)B" } : Jvm.MethodName) jdk_52_method_15_code (2 : Nat) (Option.some Jvm.ClassFile.FieldType.byte)).before args0 about1 = true := code_word (m := ⟨10, 1⟩) (meth := k10m1) (c := k10c1) (by decide +kernel) rfl rfl rfl (by decide +kernel)
set_option maxRecDepth 65536 in
theorem w_c16 : (Jvm.Cond.code ({ cls := "com/example/heronbus/heronbus/stomp/Frame", name := "isConnect", desc := "(Ljava/lang/String;)Z" } : Jvm.MethodName) prog_113_method_5_code (1 : Nat) (Option.some Jvm.ClassFile.FieldType.boolean)).before args0 about1 = true := code_word (m := ⟨11, 0⟩) (meth := k11m0) (c := k11c0) (by decide +kernel) rfl rfl rfl (by decide +kernel)
set_option maxRecDepth 65536 in
theorem w_c17 : (Jvm.Cond.code ({ cls := "java/lang/String", name := "equals", desc := "(Ljava/lang/Object;)Z" } : Jvm.MethodName) jdk_42_method_66_code (3 : Nat) (Option.some Jvm.ClassFile.FieldType.boolean)).before args0 about1 = true := code_word (m := ⟨7, 4⟩) (meth := k7m4) (c := k7c4) (by decide +kernel) rfl rfl rfl (by decide +kernel)
set_option maxRecDepth 65536 in
theorem w_c18 : (Jvm.Cond.code ({ cls := "java/lang/StringLatin1", name := "equals", desc := "([B[B)Z" } : Jvm.MethodName) jdk_43_method_13_code (3 : Nat) (Option.some Jvm.ClassFile.FieldType.boolean)).before args0 about1 = true := code_word (m := ⟨8, 2⟩) (meth := k8m2) (c := k8c2) (by decide +kernel) rfl rfl rfl (by decide +kernel)
def codes1 : List Jvm.Cond := [Jvm.Cond.code x code maxLocals ret, Jvm.Cond.code ({ cls := "com/example/heronbus/heronbus/stomp/FrameIsConnectPinLaw", name := "pick", desc := "(Ljava/lang/String;IIZCC)C" } : Jvm.MethodName) method_3_code (6 : Nat) (Option.some Jvm.ClassFile.FieldType.char), Jvm.Cond.code ({ cls := "java/lang/String", name := "length", desc := "()I" } : Jvm.MethodName) jdk_42_method_54_code (1 : Nat) (Option.some Jvm.ClassFile.FieldType.int), Jvm.Cond.code ({ cls := "java/lang/String", name := "coder", desc := "()B" } : Jvm.MethodName) jdk_42_method_152_code (1 : Nat) (Option.some Jvm.ClassFile.FieldType.byte), Jvm.Cond.code ({ cls := "java/lang/String", name := "charAt", desc := "(I)C" } : Jvm.MethodName) jdk_42_method_56_code (2 : Nat) (Option.some Jvm.ClassFile.FieldType.char), Jvm.Cond.code ({ cls := "java/lang/String", name := "isLatin1", desc := "()Z" } : Jvm.MethodName) jdk_42_method_154_code (1 : Nat) (Option.some Jvm.ClassFile.FieldType.boolean), Jvm.Cond.code ({ cls := "java/lang/StringLatin1", name := "charAt", desc := "([BI)C" } : Jvm.MethodName) jdk_43_method_2_code (2 : Nat) (Option.some Jvm.ClassFile.FieldType.char), Jvm.Cond.code ({ cls := "java/lang/String", name := "checkIndex", desc := "(II)V" } : Jvm.MethodName) jdk_42_method_155_code (2 : Nat) (Option.none : Option Jvm.ClassFile.FieldType), Jvm.Cond.code ({ cls := "jdk/internal/util/Preconditions", name := "checkIndex", desc := "(IILjava/util/function/BiFunction;)I" } : Jvm.MethodName) jdk_41_method_11_code (3 : Nat) (Option.some Jvm.ClassFile.FieldType.int), Jvm.Cond.code ({ cls := "com/example/heronbus/heronbus/stomp/FrameIsConnectPinLaw", name := "make", desc := "(ICCCCCCCCC)Ljava/lang/String;" } : Jvm.MethodName) method_4_code (10 : Nat) (Option.some (Jvm.ClassFile.FieldType.object "java/lang/String")), Jvm.Cond.code ({ cls := "java/lang/String", name := "<init>", desc := "([C)V" } : Jvm.MethodName) jdk_42_method_3_code (2 : Nat) (Option.none : Option Jvm.ClassFile.FieldType), Jvm.Cond.code ({ cls := "java/lang/String", name := "<init>", desc := "([CIILjava/lang/Void;)V" } : Jvm.MethodName) jdk_42_method_149_code (6 : Nat) (Option.none : Option Jvm.ClassFile.FieldType), Jvm.Cond.code ({ cls := "java/lang/Object", name := "<init>", desc := "()V" } : Jvm.MethodName) object_method_1_code (1 : Nat) (Option.none : Option Jvm.ClassFile.FieldType), Jvm.Cond.code ({ cls := "java/lang/StringUTF16", name := "compress", desc := "([CII)[B" } : Jvm.MethodName) jdk_52_method_16_code (6 : Nat) (Option.some (Jvm.ClassFile.FieldType.array Jvm.ClassFile.FieldType.byte)), Jvm.Cond.code ({ cls := "java/lang/StringUTF16", name := "compress", desc := "([CI[BII)I" } : Jvm.MethodName) jdk_52_method_21_code (7 : Nat) (Option.some Jvm.ClassFile.FieldType.int), Jvm.Cond.code ({ cls := "java/lang/StringUTF16", name := "coderFromArrayLen", desc := "([BI)B" } : Jvm.MethodName) jdk_52_method_15_code (2 : Nat) (Option.some Jvm.ClassFile.FieldType.byte), Jvm.Cond.code ({ cls := "com/example/heronbus/heronbus/stomp/Frame", name := "isConnect", desc := "(Ljava/lang/String;)Z" } : Jvm.MethodName) prog_113_method_5_code (1 : Nat) (Option.some Jvm.ClassFile.FieldType.boolean), Jvm.Cond.code ({ cls := "java/lang/String", name := "equals", desc := "(Ljava/lang/Object;)Z" } : Jvm.MethodName) jdk_42_method_66_code (3 : Nat) (Option.some Jvm.ClassFile.FieldType.boolean), Jvm.Cond.code ({ cls := "java/lang/StringLatin1", name := "equals", desc := "([B[B)Z" } : Jvm.MethodName) jdk_43_method_13_code (3 : Nat) (Option.some Jvm.ClassFile.FieldType.boolean)]
set_option maxRecDepth 65536 in
theorem codes_eq : words1.filter isCode = codes1 := rfl
theorem w_codes : ∀ c ∈ words1.filter isCode, c.before args0 about1 = true := by
  rw [codes_eq]
  intro c hc
  simp only [codes1, List.mem_cons, List.not_mem_nil, or_false] at hc
  rcases hc with rfl | rfl | rfl | rfl | rfl | rfl | rfl | rfl | rfl | rfl | rfl | rfl | rfl | rfl | rfl | rfl | rfl | rfl | rfl
  · exact w_c0
  · exact w_c1
  · exact w_c2
  · exact w_c3
  · exact w_c4
  · exact w_c5
  · exact w_c6
  · exact w_c7
  · exact w_c8
  · exact w_c9
  · exact w_c10
  · exact w_c11
  · exact w_c12
  · exact w_c13
  · exact w_c14
  · exact w_c15
  · exact w_c16
  · exact w_c17
  · exact w_c18
set_option maxRecDepth 65536 in
theorem w_t1 : (words1.take 24).all (fun c => isCode c || c.before args0 about1) = true := by decide +kernel
set_option maxRecDepth 65536 in
theorem w_t2 : ((words1.drop 24).take 24).all (fun c => isCode c || c.before args0 about1) = true := by decide +kernel
set_option maxRecDepth 65536 in
theorem w_t3 : (((words1.drop 24).drop 24).take 24).all (fun c => isCode c || c.before args0 about1) = true := by decide +kernel
set_option maxRecDepth 65536 in
theorem w_t4 : (((words1.drop 24).drop 24).drop 24).all (fun c => isCode c || c.before args0 about1) = true := by decide +kernel
theorem w_tables : (allAtoms (Jvm.Cond.code x code maxLocals ret :: tables_1)).before args0 about1 = true := by
  rw [allAtoms_all]
  show words1.all (fun c => c.before args0 about1) = true
  refine all_split ?_ w_codes
  rw [← List.take_append_drop 24 words1, List.all_append, w_t1, ← List.take_append_drop 24 (words1.drop 24), List.all_append, w_t2, ← List.take_append_drop 24 ((words1.drop 24).drop 24), List.all_append, w_t3, w_t4]
  rfl
set_option maxRecDepth 65536 in
theorem w_rest : rest_1_c.before args0 about1 = true := by decide +kernel
set_option maxRecDepth 65536 in
theorem w_case : (Jvm.Cond.and given_1 narrow_1).before args0 about1 = true := by decide +kernel
set_option maxRecDepth 65536 in
theorem w_consts : constsHeld consts_1 about1 := Jvm.Lit.constsHeldB_iff.mp (by decide +kernel)
theorem w_applies : (headSpec (Jvm.Cond.code x code maxLocals ret :: tables_1) room_1).applies x e0.platform about1 = true :=
  (Spec.applies_iff w_frames).mpr ⟨w_running, w_runnable, w_alone, w_named, w_hears, w_ripe, w_room, w_tables⟩
theorem atStart : AtStart classFile x code maxLocals ret World_1 tables_1 room_1 Calls_1 rest_1 Pre_1 launch0 p0 e0 about1 theMethod args0 below0 :=
  ⟨lists_1, trivial, launch0.admits_env _ _ _, launch0.least_env, fairChoices_fair.cas, fairChoices_fair.clock, w_frames, w_args, w_heap, w_applies, ⟨w_consts, trivial⟩, w_rest, w_case⟩
end start1
theorem witness_1 : WitnessClaimed_1 := ⟨start1.p0, start1.e0, start1.about1, start1.theMethod, start1.args0, start1.below0, start1.atStart⟩
end Jvm.Pilot.@@N@@
