import JvmDerived
import JvmDerived.Pilot.@@N@@Statement
import JvmDerived.Pilot.@@N@@Code
set_option linter.unusedVariables false
set_option linter.unusedSimpArgs false
namespace Jvm.OwnWP
open Sem ClassFile Op Lib Jvm.Stand Jvm.Free Jvm.LawKit Jvm.RoadKit
/-- the fixed things of a body's walk -/
abbrev Cx := Program × Launch × Env × Room × State × MethodId × Array Value × List Frame × Method × Code × State × Nat × (Option Value → Heap → Prop) × (Outcome → State → List Loc → Prop)
def Cx.p (k : Cx) : Program := k.1
def Cx.l (k : Cx) : Launch := k.2.1
def Cx.e (k : Cx) : Env := k.2.2.1
def Cx.R (k : Cx) : Room := k.2.2.2.1
def Cx.s (k : Cx) : State := k.2.2.2.2.1
def Cx.m (k : Cx) : MethodId := k.2.2.2.2.2.1
def Cx.args (k : Cx) : Array Value := k.2.2.2.2.2.2.1
def Cx.below (k : Cx) : List Frame := k.2.2.2.2.2.2.2.1
def Cx.meth (k : Cx) : Method := k.2.2.2.2.2.2.2.2.1
def Cx.c (k : Cx) : Code := k.2.2.2.2.2.2.2.2.2.1
def Cx.Z (k : Cx) : State := k.2.2.2.2.2.2.2.2.2.2.1
def Cx.n0 (k : Cx) : Nat := k.2.2.2.2.2.2.2.2.2.2.2.1
def Cx.Q (k : Cx) : Option Value → Heap → Prop := k.2.2.2.2.2.2.2.2.2.2.2.2.1
/-- what the body's end must say of the frame -/
def Cx.Fin (k : Cx) : Outcome → State → List Loc → Prop := k.2.2.2.2.2.2.2.2.2.2.2.2.2
def Cx.St (k : Cx) (T : State) (locs : List Loc) (cells slots : Nat) : Prop := Stand k.p k.l k.e k.R k.s k.m k.args k.below k.meth k.c T locs cells slots
def Cx.Go (k : Cx) (a t : State) : Prop := Steps k.p.tables k.e k.below a t
def Cx.End (k : Cx) (a : State) : Prop := ∃ s₂ o, Steps k.p.tables k.e k.below a s₂ ∧ s₂.status = .running ∧ Ended s₂ k.below o ∧ ∃ v L, o = .returned v ∧ (k.Q v s₂.heap ∧ Fr k.n0 L) ∧ k.Fin o s₂ L
/-- from here the body runs to its end and leaves what Q says -/
def WP (k : Cx) (h : Heap) (cells slots pc : Nat) (ls : List Slot) (st : List Value) : Prop :=
  ∀ (T : State) (locs : List Loc), k.St T locs cells slots → T.heap = h → Fr k.n0 locs → k.End (T.setTop (mkF k.m pc ls.toArray st))
def Ok (k : Cx) (l : Launch) (Z : State) (n0 : Nat) (rm : Room) (bytes : ByteArray) (maxL : Nat) (y : MethodName) (ret : Option FieldType) (Q : Option Value → Heap → Prop) : Prop :=
  k.p.tables.exec = Jvm.exec ∧ Z.Warmed39 k.s.vm ∧ k.R = rm ∧ k.c.code = bytes ∧ k.c.maxLocals = maxL ∧ k.s.vm.findClass y.cls = some k.m.cls ∧ k.meth.sig.returnType = ret ∧ k.meth.locks = false ∧ k.meth.name = y.name ∧ k.l = l ∧ k.Z = Z ∧ k.n0 = n0 ∧ k.Q = Q ∧ ∀ v s₂ L, Q v s₂.heap → FrameEnd k.s (.returned v) s₂ L k.R.cells k.R.slots → k.Fin (.returned v) s₂ L
section Base
variable {k : Cx} {l : Launch} {Z : State} {n0 : Nat} {rm : Room} {bytes : ByteArray} {maxL : Nat} {y : MethodName} {ret : Option FieldType} {Q : Option Value → Heap → Prop}
theorem Ok.hx (K : Ok k l Z n0 rm bytes maxL y ret Q) : k.p.tables.exec = Jvm.exec := K.1
theorem Ok.hZ (K : Ok k l Z n0 rm bytes maxL y ret Q) : Z.Warmed39 k.s.vm := K.2.1
theorem Ok.hR (K : Ok k l Z n0 rm bytes maxL y ret Q) : k.R = rm := K.2.2.1
theorem Ok.hby (K : Ok k l Z n0 rm bytes maxL y ret Q) : k.c.code = bytes := K.2.2.2.1
theorem Ok.hml (K : Ok k l Z n0 rm bytes maxL y ret Q) : k.c.maxLocals = maxL := K.2.2.2.2.1
theorem Ok.hown (K : Ok k l Z n0 rm bytes maxL y ret Q) : k.s.vm.findClass y.cls = some k.m.cls := K.2.2.2.2.2.1
theorem Ok.hret (K : Ok k l Z n0 rm bytes maxL y ret Q) : k.meth.sig.returnType = ret := K.2.2.2.2.2.2.1
theorem Ok.hlk (K : Ok k l Z n0 rm bytes maxL y ret Q) : k.meth.locks = false := K.2.2.2.2.2.2.2.1
theorem Ok.hnm (K : Ok k l Z n0 rm bytes maxL y ret Q) : k.meth.name = y.name := K.2.2.2.2.2.2.2.2.1
theorem Ok.hl (K : Ok k l Z n0 rm bytes maxL y ret Q) : k.l = l := K.2.2.2.2.2.2.2.2.2.1
theorem Ok.hZe (K : Ok k l Z n0 rm bytes maxL y ret Q) : k.Z = Z := K.2.2.2.2.2.2.2.2.2.2.1
theorem Ok.hn0 (K : Ok k l Z n0 rm bytes maxL y ret Q) : k.n0 = n0 := K.2.2.2.2.2.2.2.2.2.2.2.1
theorem Ok.hQ (K : Ok k l Z n0 rm bytes maxL y ret Q) : k.Q = Q := K.2.2.2.2.2.2.2.2.2.2.2.2.1
theorem Ok.hfin (K : Ok k l Z n0 rm bytes maxL y ret Q) : ∀ v s₂ L, Q v s₂.heap → FrameEnd k.s (.returned v) s₂ L k.R.cells k.R.slots → k.Fin (.returned v) s₂ L := K.2.2.2.2.2.2.2.2.2.2.2.2.2
theorem Ok.dec (K : Ok k l Z n0 rm bytes maxL y ret Q) {pc : Nat} {r : Except DecodeError (Instr × Nat)} (h : decode bytes pc = r) : decode k.c.code pc = r := hb K.hby h
theorem End.back {a b : State} (st : ∀ t, k.Go b t → k.Go a t) (w : k.End b) : k.End a := by
  obtain ⟨s2, o, h1, r⟩ := w
  exact ⟨s2, o, st _ h1, r⟩
theorem arrGet {ls : List Slot} {i : Nat} {o : Slot} (h : ls[i]? = some o) : ls.toArray[i]? = some o := by simpa using h
variable {h : Heap} {cells slots pc : Nat} {ls : List Slot} {st : List Value}
theorem WP.plain {pc' : Nat} {ls' : List Slot} {st' : List Value} (hs : ∀ T, At T k.m k.c k.below → ∀ t, Steps k.p.tables k.e k.below (T.setTop (mkF k.m pc' ls'.toArray st')) t → Steps k.p.tables k.e k.below (T.setTop (mkF k.m pc ls.toArray st)) t)
    (w : WP k h cells slots pc' ls' st') : WP k h cells slots pc ls st := fun T locs X e N => End.back (fun t q => hs T X.here t q) (w T locs X e N)
theorem WP.mono {cells' slots' : Nat} (hc : cells ≤ cells') (hs : slots ≤ slots') (w : WP k h cells' slots' pc ls st) : WP k h cells slots pc ls st := fun T locs X e N =>
  w T locs { X with same := X.same.mono hc hs } e N
theorem WP.cast {pc' : Nat} {ls' : List Slot} {st' : List Value} {h' : Heap} (w : WP k h' cells slots pc' ls' st') (e1 : h' = h) (e2 : pc' = pc) (e3 : ls' = ls) (e4 : st' = st) : WP k h cells slots pc ls st := by subst e1 e2 e3 e4; exact w
/-- the contract of a body, at given arguments and a given heap -/
def Con (l : Launch) (Z : State) (y : MethodName) (bytes : ByteArray) (maxL : Nat) (ret : Option FieldType) (rm : Room) (n0 : Nat) (as : Array Value) (h0 : Heap) (Q : Option Value → Heap → Prop) : Prop :=
  ∀ ws, MetFree l y (head1 (Jvm.Cond.code y bytes maxL ret :: ws) rm) (fun a U => a = as ∧ Z.Warmed39 U.vm ∧ U.heap = h0) (fun _ _ _ _ _ => True) (fun _ U o U' => ∃ v L, o = .returned v ∧ (Q v U'.heap ∧ Fr n0 L) ∧ FrameEnd U o U' L rm.cells rm.slots)
def R1 (Q : Value → Heap → Prop) : Option Value → Heap → Prop := fun v h => ∃ r, v = some r ∧ Q r h
def R0 (Q : Heap → Prop) : Option Value → Heap → Prop := fun v h => v = none ∧ Q h
theorem Con.of {as : Array Value} {h0 : Heap} (hp : plainFor y = true) (he : ∀ m, entryFrame m as maxL = mkF m 0 ls.toArray [])
    (hwp : ∀ k, Ok k l Z n0 rm bytes maxL y ret Q → WP k h0 0 0 0 ls []) : Con l Z y bytes maxL ret rm n0 as h0 Q := by
  intro ws
  refine MetFree.of_bodySF hp hisR ?_
  intro p e s m args below meth c s₁ Bd hml0 hP hK
  obtain ⟨rfl, hZ, hh⟩ := hP
  have X0 : Stand p l e rm s m args below meth c s₁ [] 0 0 := Stand.of_body Bd
  have e0 : s₁.heap = h0 := by rw [← hh, Bd.state]; rfl
  have w := hwp (p, l, e, rm, s, m, args, below, meth, c, Z, n0, Q, fun o s₂ L => FrameEnd s o s₂ L rm.cells rm.slots) ⟨Bd.exec, hZ, rfl, Bd.bytes, hml0, findClass_of_methodNamed Bd.named, Bd.returns, Bd.notSynchronized, (name_of_methodNamed Bd.named Bd.method).1, rfl, rfl, rfl, rfl, fun _ _ _ _ q => q⟩ s₁ [] X0 e0 (Fr.nil n0)
  obtain ⟨s2, o, h1, h2, h3, h4⟩ := w
  exact ⟨s2, o, castTop (he m) h1, h2, h3, h4⟩
theorem Con.mono {as : Array Value} {h0 : Heap} {Q' : Option Value → Heap → Prop} (C : Con l Z y bytes maxL ret rm n0 as h0 Q) (hq : ∀ v h, Q v h → Q' v h) : Con l Z y bytes maxL ret rm n0 as h0 Q' := by
  intro ws p e ha hc hk s m args below hf happ hP hK
  obtain ⟨n, o, h1, h2, h3, v, L, e1, q, r⟩ := C ws p e ha hc hk s m args below hf happ hP hK
  exact ⟨n, o, h1, h2, h3, v, L, e1, ⟨hq _ _ q.1, q.2⟩, r⟩
end Base
section Plain
variable {k : Cx} {l : Launch} {Z : State} {n0 : Nat} {rm : Room} {bytes : ByteArray} {maxL : Nat} {y : MethodName} {ret : Option FieldType} {Q : Option Value → Heap → Prop} {h : Heap} {cells slots pc : Nat} {ls : List Slot} {st : List Value}

theorem WP.iload (K : Ok k l Z n0 rm bytes maxL y ret Q) {i : Nat} {v : Int32} (pc' : Nat) (hd : decode bytes pc = .ok (.iload i, 2)) (hp : pc + 2 = pc') (hl : ls[i]? = some (.val (.int v))) (w : WP k h cells slots pc' ls (.int v :: st)) : WP k h cells slots pc ls st := by
  subst hp; exact w.plain fun T A t q => XS.iload A K.hx rfl (K.dec hd) (arrGet hl) q
theorem WP.iloadN (K : Ok k l Z n0 rm bytes maxL y ret Q) {i : Fin 4} {v : Int32} (pc' : Nat) (hd : decode bytes pc = .ok (.iload_n i, 1)) (hp : pc + 1 = pc') (hl : ls[i.val]? = some (.val (.int v))) (w : WP k h cells slots pc' ls (.int v :: st)) : WP k h cells slots pc ls st := by
  subst hp; exact w.plain fun T A t q => XS.iloadN A K.hx rfl (K.dec hd) (arrGet hl) q
theorem WP.lload (K : Ok k l Z n0 rm bytes maxL y ret Q) {i : Nat} {v : Int64} (pc' : Nat) (hd : decode bytes pc = .ok (.lload i, 2)) (hp : pc + 2 = pc') (hl : ls[i]? = some (.val (.long v))) (w : WP k h cells slots pc' ls (.long v :: st)) : WP k h cells slots pc ls st := by
  subst hp; exact w.plain fun T A t q => XT.lload A K.hx rfl (K.dec hd) (arrGet hl) q
theorem WP.lloadN (K : Ok k l Z n0 rm bytes maxL y ret Q) {i : Fin 4} {v : Int64} (pc' : Nat) (hd : decode bytes pc = .ok (.lload_n i, 1)) (hp : pc + 1 = pc') (hl : ls[i.val]? = some (.val (.long v))) (w : WP k h cells slots pc' ls (.long v :: st)) : WP k h cells slots pc ls st := by
  subst hp; exact w.plain fun T A t q => XT.lloadN A K.hx rfl (K.dec hd) (arrGet hl) q
theorem WP.aload (K : Ok k l Z n0 rm bytes maxL y ret Q) {i : Nat} {v : Value} (pc' : Nat) (hd : decode bytes pc = .ok (.aload i, 2)) (hp : pc + 2 = pc') (hl : ls[i]? = some (.val (v))) (hv : v.isRef = true) (w : WP k h cells slots pc' ls (v :: st)) : WP k h cells slots pc ls st := by
  subst hp; exact w.plain fun T A t q => XS.aload A K.hx rfl (K.dec hd) (arrGet hl) hv q
theorem WP.aloadN (K : Ok k l Z n0 rm bytes maxL y ret Q) {i : Fin 4} {v : Value} (pc' : Nat) (hd : decode bytes pc = .ok (.aload_n i, 1)) (hp : pc + 1 = pc') (hl : ls[i.val]? = some (.val (v))) (hv : v.isRef = true) (w : WP k h cells slots pc' ls (v :: st)) : WP k h cells slots pc ls st := by
  subst hp; exact w.plain fun T A t q => XS.aloadN A K.hx rfl (K.dec hd) (arrGet hl) hv q
theorem WP.istore (K : Ok k l Z n0 rm bytes maxL y ret Q) {i : Nat} {v : Int32} (pc' : Nat) (ls' : List Slot) (hd : decode bytes pc = .ok (.istore i, 2)) (hp : pc + 2 = pc') (hl : storeLocals ls.toArray i (.int v) = some ls'.toArray) (w : WP k h cells slots pc' ls' st) : WP k h cells slots pc ls (.int v :: st) := by
  subst hp; exact w.plain fun T A t q => XS.istore A K.hx rfl (K.dec hd) rfl hl q
theorem WP.istoreN (K : Ok k l Z n0 rm bytes maxL y ret Q) {i : Fin 4} {v : Int32} (pc' : Nat) (ls' : List Slot) (hd : decode bytes pc = .ok (.istore_n i, 1)) (hp : pc + 1 = pc') (hl : storeLocals ls.toArray i.val (.int v) = some ls'.toArray) (w : WP k h cells slots pc' ls' st) : WP k h cells slots pc ls (.int v :: st) := by
  subst hp; exact w.plain fun T A t q => XS.istoreN A K.hx rfl (K.dec hd) rfl hl q
theorem WP.lstore (K : Ok k l Z n0 rm bytes maxL y ret Q) {i : Nat} {v : Int64} (pc' : Nat) (ls' : List Slot) (hd : decode bytes pc = .ok (.lstore i, 2)) (hp : pc + 2 = pc') (hl : storeLocals ls.toArray i (.long v) = some ls'.toArray) (w : WP k h cells slots pc' ls' st) : WP k h cells slots pc ls (.long v :: st) := by
  subst hp; exact w.plain fun T A t q => XT.lstore A K.hx rfl (K.dec hd) rfl hl q
theorem WP.lstoreN (K : Ok k l Z n0 rm bytes maxL y ret Q) {i : Fin 4} {v : Int64} (pc' : Nat) (ls' : List Slot) (hd : decode bytes pc = .ok (.lstore_n i, 1)) (hp : pc + 1 = pc') (hl : storeLocals ls.toArray i.val (.long v) = some ls'.toArray) (w : WP k h cells slots pc' ls' st) : WP k h cells slots pc ls (.long v :: st) := by
  subst hp; exact w.plain fun T A t q => XT.lstoreN A K.hx rfl (K.dec hd) rfl hl q
theorem WP.astore (K : Ok k l Z n0 rm bytes maxL y ret Q) {i : Nat} {v : Value} (pc' : Nat) (ls' : List Slot) (hd : decode bytes pc = .ok (.astore i, 2)) (hp : pc + 2 = pc') (hv : v.isRef = true) (hl : storeLocals ls.toArray i (v) = some ls'.toArray) (w : WP k h cells slots pc' ls' st) : WP k h cells slots pc ls (v :: st) := by
  subst hp; exact w.plain fun T A t q => XS.astore A K.hx rfl (K.dec hd) rfl hv hl q
theorem WP.astoreN (K : Ok k l Z n0 rm bytes maxL y ret Q) {i : Fin 4} {v : Value} (pc' : Nat) (ls' : List Slot) (hd : decode bytes pc = .ok (.astore_n i, 1)) (hp : pc + 1 = pc') (hv : v.isRef = true) (hl : storeLocals ls.toArray i.val (v) = some ls'.toArray) (w : WP k h cells slots pc' ls' st) : WP k h cells slots pc ls (v :: st) := by
  subst hp; exact w.plain fun T A t q => XS.astoreN A K.hx rfl (K.dec hd) rfl hv hl q
theorem WP.iconst (K : Ok k l Z n0 rm bytes maxL y ret Q) {i : Int} (v : Int32) (pc' : Nat) (hd : decode bytes pc = .ok (.iconst i, 1)) (hp : pc + 1 = pc') (hv : Int32.ofInt i = v) (w : WP k h cells slots pc' ls (.int v :: st)) : WP k h cells slots pc ls st := by
  subst hp; exact w.plain fun T A t q => XT.iconstV A K.hx rfl v (K.dec hd) hv q
theorem WP.bipush (K : Ok k l Z n0 rm bytes maxL y ret Q) {i : Int} (v : Int32) (pc' : Nat) (hd : decode bytes pc = .ok (.bipush i, 2)) (hp : pc + 2 = pc') (hv : (Int8.ofInt i).toInt32 = v) (w : WP k h cells slots pc' ls (.int v :: st)) : WP k h cells slots pc ls st := by
  subst hp; exact w.plain fun T A t q => XT.bipushV A K.hx rfl v (K.dec hd) hv q
theorem WP.sipush (K : Ok k l Z n0 rm bytes maxL y ret Q) {i : Int} (v : Int32) (pc' : Nat) (hd : decode bytes pc = .ok (.sipush i, 3)) (hp : pc + 3 = pc') (hv : (Int16.ofInt i).toInt32 = v) (w : WP k h cells slots pc' ls (.int v :: st)) : WP k h cells slots pc ls st := by
  subst hp; exact w.plain fun T A t q => XT.sipushV A K.hx rfl v (K.dec hd) hv q
theorem WP.lconst (K : Ok k l Z n0 rm bytes maxL y ret Q) {i : Fin 2} (v : Int64) (pc' : Nat) (hd : decode bytes pc = .ok (.lconst i, 1)) (hp : pc + 1 = pc') (hv : Int64.ofNat i = v) (w : WP k h cells slots pc' ls (.long v :: st)) : WP k h cells slots pc ls st := by
  subst hp; exact w.plain fun T A t q => XT.lconstV A K.hx rfl v (K.dec hd) hv q
theorem WP.aconstNull (K : Ok k l Z n0 rm bytes maxL y ret Q) (pc' : Nat) (hd : decode bytes pc = .ok (.aconst_null, 1)) (hp : pc + 1 = pc') (w : WP k h cells slots pc' ls (.null :: st)) : WP k h cells slots pc ls st := by
  subst hp; exact w.plain fun T A t q => XS.aconstNull A K.hx rfl (K.dec hd) q
theorem WP.iadd (K : Ok k l Z n0 rm bytes maxL y ret Q) {x : Int32} {z : Int32} (pc' : Nat) (hd : decode bytes pc = .ok (.iadd, 1)) (hp : pc + 1 = pc') (w : WP k h cells slots pc' ls (.int (x + z) :: st)) : WP k h cells slots pc ls (.int z :: .int x :: st) := by
  subst hp; exact w.plain fun T A t q => XS.iadd A K.hx rfl (K.dec hd) rfl q
theorem WP.isub (K : Ok k l Z n0 rm bytes maxL y ret Q) {x : Int32} {z : Int32} (pc' : Nat) (hd : decode bytes pc = .ok (.isub, 1)) (hp : pc + 1 = pc') (w : WP k h cells slots pc' ls (.int (x - z) :: st)) : WP k h cells slots pc ls (.int z :: .int x :: st) := by
  subst hp; exact w.plain fun T A t q => XS.isub A K.hx rfl (K.dec hd) rfl q
theorem WP.imul (K : Ok k l Z n0 rm bytes maxL y ret Q) {x : Int32} {z : Int32} (pc' : Nat) (hd : decode bytes pc = .ok (.imul, 1)) (hp : pc + 1 = pc') (w : WP k h cells slots pc' ls (.int (x * z) :: st)) : WP k h cells slots pc ls (.int z :: .int x :: st) := by
  subst hp; exact w.plain fun T A t q => XS.imul A K.hx rfl (K.dec hd) rfl q
theorem WP.iand (K : Ok k l Z n0 rm bytes maxL y ret Q) {x : Int32} {z : Int32} (pc' : Nat) (hd : decode bytes pc = .ok (.iand, 1)) (hp : pc + 1 = pc') (w : WP k h cells slots pc' ls (.int (x &&& z) :: st)) : WP k h cells slots pc ls (.int z :: .int x :: st) := by
  subst hp; exact w.plain fun T A t q => XS.iand A K.hx rfl (K.dec hd) rfl q
theorem WP.ior (K : Ok k l Z n0 rm bytes maxL y ret Q) {x : Int32} {z : Int32} (pc' : Nat) (hd : decode bytes pc = .ok (.ior, 1)) (hp : pc + 1 = pc') (w : WP k h cells slots pc' ls (.int (x ||| z) :: st)) : WP k h cells slots pc ls (.int z :: .int x :: st) := by
  subst hp; exact w.plain fun T A t q => XT.ior A K.hx rfl (K.dec hd) rfl q
theorem WP.ixor (K : Ok k l Z n0 rm bytes maxL y ret Q) {x : Int32} {z : Int32} (pc' : Nat) (hd : decode bytes pc = .ok (.ixor, 1)) (hp : pc + 1 = pc') (w : WP k h cells slots pc' ls (.int (x ^^^ z) :: st)) : WP k h cells slots pc ls (.int z :: .int x :: st) := by
  subst hp; exact w.plain fun T A t q => XT.ixor A K.hx rfl (K.dec hd) rfl q
theorem WP.ishl (K : Ok k l Z n0 rm bytes maxL y ret Q) {x : Int32} {z : Int32} (pc' : Nat) (hd : decode bytes pc = .ok (.ishl, 1)) (hp : pc + 1 = pc') (w : WP k h cells slots pc' ls (.int (x <<< (z &&& 31)) :: st)) : WP k h cells slots pc ls (.int z :: .int x :: st) := by
  subst hp; exact w.plain fun T A t q => XT.ishl A K.hx rfl (K.dec hd) rfl q
theorem WP.ishr (K : Ok k l Z n0 rm bytes maxL y ret Q) {x : Int32} {z : Int32} (pc' : Nat) (hd : decode bytes pc = .ok (.ishr, 1)) (hp : pc + 1 = pc') (w : WP k h cells slots pc' ls (.int (x >>> (z &&& 31)) :: st)) : WP k h cells slots pc ls (.int z :: .int x :: st) := by
  subst hp; exact w.plain fun T A t q => XT.ishr A K.hx rfl (K.dec hd) rfl q
theorem WP.iushr (K : Ok k l Z n0 rm bytes maxL y ret Q) {x : Int32} {z : Int32} (pc' : Nat) (hd : decode bytes pc = .ok (.iushr, 1)) (hp : pc + 1 = pc') (w : WP k h cells slots pc' ls (.int (XT.ushr x z) :: st)) : WP k h cells slots pc ls (.int z :: .int x :: st) := by
  subst hp; exact w.plain fun T A t q => XT.iushr A K.hx rfl (K.dec hd) rfl q
theorem WP.ladd (K : Ok k l Z n0 rm bytes maxL y ret Q) {x : Int64} {z : Int64} (pc' : Nat) (hd : decode bytes pc = .ok (.ladd, 1)) (hp : pc + 1 = pc') (w : WP k h cells slots pc' ls (.long (x + z) :: st)) : WP k h cells slots pc ls (.long z :: .long x :: st) := by
  subst hp; exact w.plain fun T A t q => XT.ladd A K.hx rfl (K.dec hd) rfl q
theorem WP.lsub (K : Ok k l Z n0 rm bytes maxL y ret Q) {x : Int64} {z : Int64} (pc' : Nat) (hd : decode bytes pc = .ok (.lsub, 1)) (hp : pc + 1 = pc') (w : WP k h cells slots pc' ls (.long (x - z) :: st)) : WP k h cells slots pc ls (.long z :: .long x :: st) := by
  subst hp; exact w.plain fun T A t q => XT.lsub A K.hx rfl (K.dec hd) rfl q
theorem WP.lmul (K : Ok k l Z n0 rm bytes maxL y ret Q) {x : Int64} {z : Int64} (pc' : Nat) (hd : decode bytes pc = .ok (.lmul, 1)) (hp : pc + 1 = pc') (w : WP k h cells slots pc' ls (.long (x * z) :: st)) : WP k h cells slots pc ls (.long z :: .long x :: st) := by
  subst hp; exact w.plain fun T A t q => XT.lmul A K.hx rfl (K.dec hd) rfl q
theorem WP.land (K : Ok k l Z n0 rm bytes maxL y ret Q) {x : Int64} {z : Int64} (pc' : Nat) (hd : decode bytes pc = .ok (.land, 1)) (hp : pc + 1 = pc') (w : WP k h cells slots pc' ls (.long (x &&& z) :: st)) : WP k h cells slots pc ls (.long z :: .long x :: st) := by
  subst hp; exact w.plain fun T A t q => XT.land A K.hx rfl (K.dec hd) rfl q
theorem WP.lor (K : Ok k l Z n0 rm bytes maxL y ret Q) {x : Int64} {z : Int64} (pc' : Nat) (hd : decode bytes pc = .ok (.lor, 1)) (hp : pc + 1 = pc') (w : WP k h cells slots pc' ls (.long (x ||| z) :: st)) : WP k h cells slots pc ls (.long z :: .long x :: st) := by
  subst hp; exact w.plain fun T A t q => XT.lor A K.hx rfl (K.dec hd) rfl q
theorem WP.lxor (K : Ok k l Z n0 rm bytes maxL y ret Q) {x : Int64} {z : Int64} (pc' : Nat) (hd : decode bytes pc = .ok (.lxor, 1)) (hp : pc + 1 = pc') (w : WP k h cells slots pc' ls (.long (x ^^^ z) :: st)) : WP k h cells slots pc ls (.long z :: .long x :: st) := by
  subst hp; exact w.plain fun T A t q => XT.lxor A K.hx rfl (K.dec hd) rfl q
theorem WP.lshl (K : Ok k l Z n0 rm bytes maxL y ret Q) {x : Int64} {z : Int32} (pc' : Nat) (hd : decode bytes pc = .ok (.lshl, 1)) (hp : pc + 1 = pc') (w : WP k h cells slots pc' ls (.long (x <<< (z.toInt64 &&& 63)) :: st)) : WP k h cells slots pc ls (.int z :: .long x :: st) := by
  subst hp; exact w.plain fun T A t q => XT.lshl A K.hx rfl (K.dec hd) rfl q
theorem WP.lshr (K : Ok k l Z n0 rm bytes maxL y ret Q) {x : Int64} {z : Int32} (pc' : Nat) (hd : decode bytes pc = .ok (.lshr, 1)) (hp : pc + 1 = pc') (w : WP k h cells slots pc' ls (.long (x >>> (z.toInt64 &&& 63)) :: st)) : WP k h cells slots pc ls (.int z :: .long x :: st) := by
  subst hp; exact w.plain fun T A t q => XT.lshr A K.hx rfl (K.dec hd) rfl q
theorem WP.lushr (K : Ok k l Z n0 rm bytes maxL y ret Q) {x : Int64} {z : Int32} (pc' : Nat) (hd : decode bytes pc = .ok (.lushr, 1)) (hp : pc + 1 = pc') (w : WP k h cells slots pc' ls (.long (XT.ushrL x z) :: st)) : WP k h cells slots pc ls (.int z :: .long x :: st) := by
  subst hp; exact w.plain fun T A t q => XT.lushr A K.hx rfl (K.dec hd) rfl q
theorem WP.lcmp (K : Ok k l Z n0 rm bytes maxL y ret Q) {x : Int64} {z : Int64} (pc' : Nat) (hd : decode bytes pc = .ok (.lcmp, 1)) (hp : pc + 1 = pc') (w : WP k h cells slots pc' ls (.int (XT.cmpL x z) :: st)) : WP k h cells slots pc ls (.long z :: .long x :: st) := by
  subst hp; exact w.plain fun T A t q => XT.lcmp A K.hx rfl (K.dec hd) rfl q
theorem WP.idiv (K : Ok k l Z n0 rm bytes maxL y ret Q) {x z : Int32} (pc' : Nat) (hd : decode bytes pc = .ok (.idiv, 1)) (hp : pc + 1 = pc') (hz : z ≠ 0) (w : WP k h cells slots pc' ls (.int (x / z) :: st)) : WP k h cells slots pc ls (.int z :: .int x :: st) := by
  subst hp; exact w.plain fun T A t q => XS.idiv A K.hx rfl (K.dec hd) rfl hz q
theorem WP.irem (K : Ok k l Z n0 rm bytes maxL y ret Q) {x z : Int32} (pc' : Nat) (hd : decode bytes pc = .ok (.irem, 1)) (hp : pc + 1 = pc') (hz : z ≠ 0) (w : WP k h cells slots pc' ls (.int (x % z) :: st)) : WP k h cells slots pc ls (.int z :: .int x :: st) := by
  subst hp; rw [← irem_eq_mod] at w; exact w.plain fun T A t q => XS.irem A K.hx rfl (K.dec hd) rfl hz q
theorem WP.ineg (K : Ok k l Z n0 rm bytes maxL y ret Q) {x : Int32} (pc' : Nat) (hd : decode bytes pc = .ok (.ineg, 1)) (hp : pc + 1 = pc') (w : WP k h cells slots pc' ls (.int (-x) :: st)) : WP k h cells slots pc ls (.int x :: st) := by
  subst hp; exact w.plain fun T A t q => XS.ineg A K.hx rfl (K.dec hd) rfl q
theorem WP.lneg (K : Ok k l Z n0 rm bytes maxL y ret Q) {x : Int64} (pc' : Nat) (hd : decode bytes pc = .ok (.lneg, 1)) (hp : pc + 1 = pc') (w : WP k h cells slots pc' ls (.long (-x) :: st)) : WP k h cells slots pc ls (.long x :: st) := by
  subst hp; exact w.plain fun T A t q => XT.lneg A K.hx rfl (K.dec hd) rfl q
theorem WP.i2l (K : Ok k l Z n0 rm bytes maxL y ret Q) {x : Int32} (pc' : Nat) (hd : decode bytes pc = .ok (.i2l, 1)) (hp : pc + 1 = pc') (w : WP k h cells slots pc' ls (.long x.toInt64 :: st)) : WP k h cells slots pc ls (.int x :: st) := by
  subst hp; exact w.plain fun T A t q => XT.i2l A K.hx rfl (K.dec hd) rfl q
theorem WP.l2i (K : Ok k l Z n0 rm bytes maxL y ret Q) {x : Int64} (pc' : Nat) (hd : decode bytes pc = .ok (.l2i, 1)) (hp : pc + 1 = pc') (w : WP k h cells slots pc' ls (.int x.toInt32 :: st)) : WP k h cells slots pc ls (.long x :: st) := by
  subst hp; exact w.plain fun T A t q => XT.l2i A K.hx rfl (K.dec hd) rfl q
theorem WP.i2b (K : Ok k l Z n0 rm bytes maxL y ret Q) {x : Int32} (pc' : Nat) (hd : decode bytes pc = .ok (.i2b, 1)) (hp : pc + 1 = pc') (w : WP k h cells slots pc' ls (.int x.toInt8.toInt32 :: st)) : WP k h cells slots pc ls (.int x :: st) := by
  subst hp; exact w.plain fun T A t q => XT.i2b A K.hx rfl (K.dec hd) rfl q
theorem WP.i2c (K : Ok k l Z n0 rm bytes maxL y ret Q) {x : Int32} (pc' : Nat) (hd : decode bytes pc = .ok (.i2c, 1)) (hp : pc + 1 = pc') (w : WP k h cells slots pc' ls (.int x.toUInt32.toUInt16.toUInt32.toInt32 :: st)) : WP k h cells slots pc ls (.int x :: st) := by
  subst hp; exact w.plain fun T A t q => XT.i2c A K.hx rfl (K.dec hd) rfl q
theorem WP.i2s (K : Ok k l Z n0 rm bytes maxL y ret Q) {x : Int32} (pc' : Nat) (hd : decode bytes pc = .ok (.i2s, 1)) (hp : pc + 1 = pc') (w : WP k h cells slots pc' ls (.int x.toInt16.toInt32 :: st)) : WP k h cells slots pc ls (.int x :: st) := by
  subst hp; exact w.plain fun T A t q => XT.i2s A K.hx rfl (K.dec hd) rfl q
theorem WP.dup (K : Ok k l Z n0 rm bytes maxL y ret Q) {x : Value} (pc' : Nat) (hd : decode bytes pc = .ok (.dup, 1)) (hp : pc + 1 = pc') (hc : x.category = 1) (w : WP k h cells slots pc' ls (x :: x :: st)) : WP k h cells slots pc ls (x :: st) := by
  subst hp; exact w.plain fun T A t q => XS.dup A K.hx rfl (K.dec hd) rfl hc q
theorem WP.pop (K : Ok k l Z n0 rm bytes maxL y ret Q) {x : Value} (pc' : Nat) (hd : decode bytes pc = .ok (.pop, 1)) (hp : pc + 1 = pc') (hc : x.category = 1) (w : WP k h cells slots pc' ls st) : WP k h cells slots pc ls (x :: st) := by
  subst hp; exact w.plain fun T A t q => XT.pop A K.hx rfl (K.dec hd) rfl hc q
theorem WP.dupX1 (K : Ok k l Z n0 rm bytes maxL y ret Q) {x z : Value} (pc' : Nat) (hd : decode bytes pc = .ok (.dup_x1, 1)) (hp : pc + 1 = pc') (hc : x.category = 1) (hc' : z.category = 1) (w : WP k h cells slots pc' ls (x :: z :: x :: st)) : WP k h cells slots pc ls (x :: z :: st) := by
  subst hp; exact w.plain fun T A t q => XT.dupX1 A K.hx rfl (K.dec hd) rfl hc hc' q
theorem WP.dup2 (K : Ok k l Z n0 rm bytes maxL y ret Q) {x z : Value} (pc' : Nat) (hd : decode bytes pc = .ok (.dup2, 1)) (hp : pc + 1 = pc') (hc : x.category = 1) (hc' : z.category = 1) (w : WP k h cells slots pc' ls (x :: z :: x :: z :: st)) : WP k h cells slots pc ls (x :: z :: st) := by
  subst hp; exact w.plain fun T A t q => XT.dup2 A K.hx rfl (K.dec hd) rfl hc hc' q
theorem WP.dup2L (K : Ok k l Z n0 rm bytes maxL y ret Q) {x : Int64} (pc' : Nat) (hd : decode bytes pc = .ok (.dup2, 1)) (hp : pc + 1 = pc') (w : WP k h cells slots pc' ls (.long x :: .long x :: st)) : WP k h cells slots pc ls (.long x :: st) := by
  subst hp; exact w.plain fun T A t q => XT.dup2L A K.hx rfl (K.dec hd) rfl q
theorem WP.iinc (K : Ok k l Z n0 rm bytes maxL y ret Q) {i : Nat} {cst : Int} {x : Int32} (v : Int32) (pc' : Nat) (ls' : List Slot) (hd : decode bytes pc = .ok (.iinc i cst, 3)) (hp : pc + 3 = pc') (hv : Int32.ofInt cst = v) (hl : ls[i]? = some (.val (.int x))) (hl' : storeLocals ls.toArray i (.int (x + v)) = some ls'.toArray) (w : WP k h cells slots pc' ls' st) : WP k h cells slots pc ls st := by
  subst hp; exact w.plain fun T A t q => XT.iincV A K.hx rfl v (K.dec hd) hv (arrGet hl) hl' q
theorem WP.goto (K : Ok k l Z n0 rm bytes maxL y ret Q) {o : Int} (pc' : Nat) (hd : decode bytes pc = .ok (.goto o, 3)) (hp : (pc : Int) + o = pc') (w : WP k h cells slots pc' ls st) : WP k h cells slots pc ls st :=
  w.plain fun T A t q => XS.goto A K.hx rfl (pc0 := pc) (pc' := pc') rfl (K.dec hd) (by omega) (by omega) q
theorem WP.icmp (K : Ok k l Z n0 rm bytes maxL y ret Q) {cd : ClassFile.Cond} {o : Int} {x z : Int32} (tp fp : Nat) (hd : decode bytes pc = .ok (.if_icmp cd o, 3)) (ht : (pc : Int) + o = tp) (hf : pc + 3 = fp)
    (wt : if_icmp.holds cd x z = true → WP k h cells slots tp ls st) (wf : if_icmp.holds cd x z = false → WP k h cells slots fp ls st) : WP k h cells slots pc ls (.int z :: .int x :: st) := by
  subst hf
  cases hh : if_icmp.holds cd x z
  · exact (wf hh).plain fun T A t q => XS.icmpNo A K.hx rfl (K.dec hd) rfl hh q
  · exact (wt hh).plain fun T A t q => XS.icmpYes A K.hx rfl (pc0 := pc) (pc' := tp) rfl (K.dec hd) rfl hh (by omega) (by omega) q
theorem WP.if0 (K : Ok k l Z n0 rm bytes maxL y ret Q) {cd : ClassFile.Cond} {o : Int} {x : Int32} (tp fp : Nat) (hd : decode bytes pc = .ok (.ifCond cd o, 3)) (ht : (pc : Int) + o = tp) (hf : pc + 3 = fp)
    (wt : ifCond.holds cd x = true → WP k h cells slots tp ls st) (wf : ifCond.holds cd x = false → WP k h cells slots fp ls st) : WP k h cells slots pc ls (.int x :: st) := by
  subst hf
  cases hh : ifCond.holds cd x
  · exact (wf hh).plain fun T A t q => XS.ifNo A K.hx rfl (K.dec hd) rfl hh q
  · exact (wt hh).plain fun T A t q => XS.ifYes A K.hx rfl (pc0 := pc) (pc' := tp) rfl (K.dec hd) rfl hh (by omega) (by omega) q
theorem h_lt {x z : Int32} : if_icmp.holds .lt x z = decide (x.toInt < z.toInt) := by simp [if_icmp.holds, Int32.lt_iff_toInt_lt]
theorem h_ge {x z : Int32} : if_icmp.holds .ge x z = decide (z.toInt ≤ x.toInt) := by simp [if_icmp.holds, Int32.le_iff_toInt_le]
theorem h_gt {x z : Int32} : if_icmp.holds .gt x z = decide (z.toInt < x.toInt) := by simp [if_icmp.holds, Int32.lt_iff_toInt_lt]
theorem h_le {x z : Int32} : if_icmp.holds .le x z = decide (x.toInt ≤ z.toInt) := by simp [if_icmp.holds, Int32.le_iff_toInt_le]
theorem h_eq {x z : Int32} : if_icmp.holds .eq x z = decide (x.toInt = z.toInt) := by
  rw [Bool.eq_iff_iff, decide_eq_true_iff, Int32.toInt_inj]; simp [if_icmp.holds]
theorem h_ne {x z : Int32} : if_icmp.holds .ne x z = decide (x.toInt ≠ z.toInt) := by
  by_cases q : x = z <;> simp [if_icmp.holds, Int32.toInt_inj, q]
theorem WP.icmp_lt (K : Ok k l Z n0 rm bytes maxL y ret Q) {o : Int} {x z : Int32} (tp fp : Nat) (hd : decode bytes pc = .ok (.if_icmp .lt o, 3)) (ht : (pc : Int) + o = tp) (hf : pc + 3 = fp)
    (wt : x.toInt < z.toInt → WP k h cells slots tp ls st) (wf : z.toInt ≤ x.toInt → WP k h cells slots fp ls st) : WP k h cells slots pc ls (.int z :: .int x :: st) :=
  WP.icmp K tp fp hd ht hf (fun q => wt (by rw [h_lt] at q; exact of_decide_eq_true q)) (fun q => wf (by rw [h_lt] at q; have q := of_decide_eq_false q; omega))
theorem WP.if_lt (K : Ok k l Z n0 rm bytes maxL y ret Q) {o : Int} {x : Int32} (tp fp : Nat) (hd : decode bytes pc = .ok (.ifCond .lt o, 3)) (ht : (pc : Int) + o = tp) (hf : pc + 3 = fp)
    (wt : x.toInt < 0 → WP k h cells slots tp ls st) (wf : 0 ≤ x.toInt → WP k h cells slots fp ls st) : WP k h cells slots pc ls (.int x :: st) :=
  WP.if0 K tp fp hd ht hf (fun q => wt (by rw [RoadKit.if0, h_lt] at q; exact of_decide_eq_true q)) (fun q => wf (by rw [RoadKit.if0, h_lt] at q; have q := of_decide_eq_false q; rw [show (0 : Int32).toInt = 0 from rfl] at q; omega))
theorem WP.ifl_lt (K : Ok k l Z n0 rm bytes maxL y ret Q) {o : Int} {x z : Int64} (tp fp : Nat) (hd : decode bytes pc = .ok (.ifCond .lt o, 3)) (ht : (pc : Int) + o = tp) (hf : pc + 3 = fp)
    (wt : x.toInt < z.toInt → WP k h cells slots tp ls st) (wf : z.toInt ≤ x.toInt → WP k h cells slots fp ls st) : WP k h cells slots pc ls (.int (XT.cmpL x z) :: st) := by
  refine WP.if0 K tp fp hd ht hf (fun q => ?_) (fun q => ?_)
  · refine wt ?_
    false_or_by_contra
    rename_i c
    rw [XT.ll_lt_f (by simp only [Int64.lt_iff_toInt_lt, ← Int64.toInt_inj]; omega)] at q; cases q
  · refine wf ?_
    false_or_by_contra
    rename_i c
    rw [XT.ll_lt_t (by simp only [Int64.lt_iff_toInt_lt, ← Int64.toInt_inj]; omega)] at q; cases q
theorem WP.icmp_ge (K : Ok k l Z n0 rm bytes maxL y ret Q) {o : Int} {x z : Int32} (tp fp : Nat) (hd : decode bytes pc = .ok (.if_icmp .ge o, 3)) (ht : (pc : Int) + o = tp) (hf : pc + 3 = fp)
    (wt : z.toInt ≤ x.toInt → WP k h cells slots tp ls st) (wf : x.toInt < z.toInt → WP k h cells slots fp ls st) : WP k h cells slots pc ls (.int z :: .int x :: st) :=
  WP.icmp K tp fp hd ht hf (fun q => wt (by rw [h_ge] at q; exact of_decide_eq_true q)) (fun q => wf (by rw [h_ge] at q; have q := of_decide_eq_false q; omega))
theorem WP.if_ge (K : Ok k l Z n0 rm bytes maxL y ret Q) {o : Int} {x : Int32} (tp fp : Nat) (hd : decode bytes pc = .ok (.ifCond .ge o, 3)) (ht : (pc : Int) + o = tp) (hf : pc + 3 = fp)
    (wt : 0 ≤ x.toInt → WP k h cells slots tp ls st) (wf : x.toInt < 0 → WP k h cells slots fp ls st) : WP k h cells slots pc ls (.int x :: st) :=
  WP.if0 K tp fp hd ht hf (fun q => wt (by rw [RoadKit.if0, h_ge] at q; exact of_decide_eq_true q)) (fun q => wf (by rw [RoadKit.if0, h_ge] at q; have q := of_decide_eq_false q; rw [show (0 : Int32).toInt = 0 from rfl] at q; omega))
theorem WP.ifl_ge (K : Ok k l Z n0 rm bytes maxL y ret Q) {o : Int} {x z : Int64} (tp fp : Nat) (hd : decode bytes pc = .ok (.ifCond .ge o, 3)) (ht : (pc : Int) + o = tp) (hf : pc + 3 = fp)
    (wt : z.toInt ≤ x.toInt → WP k h cells slots tp ls st) (wf : x.toInt < z.toInt → WP k h cells slots fp ls st) : WP k h cells slots pc ls (.int (XT.cmpL x z) :: st) := by
  refine WP.if0 K tp fp hd ht hf (fun q => ?_) (fun q => ?_)
  · refine wt ?_
    false_or_by_contra
    rename_i c
    rw [XT.ll_ge_f (by simp only [Int64.lt_iff_toInt_lt, ← Int64.toInt_inj]; omega)] at q; cases q
  · refine wf ?_
    false_or_by_contra
    rename_i c
    rw [XT.ll_ge_t (by simp only [Int64.lt_iff_toInt_lt, ← Int64.toInt_inj]; omega)] at q; cases q
theorem WP.icmp_gt (K : Ok k l Z n0 rm bytes maxL y ret Q) {o : Int} {x z : Int32} (tp fp : Nat) (hd : decode bytes pc = .ok (.if_icmp .gt o, 3)) (ht : (pc : Int) + o = tp) (hf : pc + 3 = fp)
    (wt : z.toInt < x.toInt → WP k h cells slots tp ls st) (wf : x.toInt ≤ z.toInt → WP k h cells slots fp ls st) : WP k h cells slots pc ls (.int z :: .int x :: st) :=
  WP.icmp K tp fp hd ht hf (fun q => wt (by rw [h_gt] at q; exact of_decide_eq_true q)) (fun q => wf (by rw [h_gt] at q; have q := of_decide_eq_false q; omega))
theorem WP.if_gt (K : Ok k l Z n0 rm bytes maxL y ret Q) {o : Int} {x : Int32} (tp fp : Nat) (hd : decode bytes pc = .ok (.ifCond .gt o, 3)) (ht : (pc : Int) + o = tp) (hf : pc + 3 = fp)
    (wt : 0 < x.toInt → WP k h cells slots tp ls st) (wf : x.toInt ≤ 0 → WP k h cells slots fp ls st) : WP k h cells slots pc ls (.int x :: st) :=
  WP.if0 K tp fp hd ht hf (fun q => wt (by rw [RoadKit.if0, h_gt] at q; exact of_decide_eq_true q)) (fun q => wf (by rw [RoadKit.if0, h_gt] at q; have q := of_decide_eq_false q; rw [show (0 : Int32).toInt = 0 from rfl] at q; omega))
theorem WP.ifl_gt (K : Ok k l Z n0 rm bytes maxL y ret Q) {o : Int} {x z : Int64} (tp fp : Nat) (hd : decode bytes pc = .ok (.ifCond .gt o, 3)) (ht : (pc : Int) + o = tp) (hf : pc + 3 = fp)
    (wt : z.toInt < x.toInt → WP k h cells slots tp ls st) (wf : x.toInt ≤ z.toInt → WP k h cells slots fp ls st) : WP k h cells slots pc ls (.int (XT.cmpL x z) :: st) := by
  refine WP.if0 K tp fp hd ht hf (fun q => ?_) (fun q => ?_)
  · refine wt ?_
    false_or_by_contra
    rename_i c
    rw [XT.ll_gt_f (by simp only [Int64.lt_iff_toInt_lt, ← Int64.toInt_inj]; omega)] at q; cases q
  · refine wf ?_
    false_or_by_contra
    rename_i c
    rw [XT.ll_gt_t (by simp only [Int64.lt_iff_toInt_lt, ← Int64.toInt_inj]; omega)] at q; cases q
theorem WP.icmp_le (K : Ok k l Z n0 rm bytes maxL y ret Q) {o : Int} {x z : Int32} (tp fp : Nat) (hd : decode bytes pc = .ok (.if_icmp .le o, 3)) (ht : (pc : Int) + o = tp) (hf : pc + 3 = fp)
    (wt : x.toInt ≤ z.toInt → WP k h cells slots tp ls st) (wf : z.toInt < x.toInt → WP k h cells slots fp ls st) : WP k h cells slots pc ls (.int z :: .int x :: st) :=
  WP.icmp K tp fp hd ht hf (fun q => wt (by rw [h_le] at q; exact of_decide_eq_true q)) (fun q => wf (by rw [h_le] at q; have q := of_decide_eq_false q; omega))
theorem WP.if_le (K : Ok k l Z n0 rm bytes maxL y ret Q) {o : Int} {x : Int32} (tp fp : Nat) (hd : decode bytes pc = .ok (.ifCond .le o, 3)) (ht : (pc : Int) + o = tp) (hf : pc + 3 = fp)
    (wt : x.toInt ≤ 0 → WP k h cells slots tp ls st) (wf : 0 < x.toInt → WP k h cells slots fp ls st) : WP k h cells slots pc ls (.int x :: st) :=
  WP.if0 K tp fp hd ht hf (fun q => wt (by rw [RoadKit.if0, h_le] at q; exact of_decide_eq_true q)) (fun q => wf (by rw [RoadKit.if0, h_le] at q; have q := of_decide_eq_false q; rw [show (0 : Int32).toInt = 0 from rfl] at q; omega))
theorem WP.ifl_le (K : Ok k l Z n0 rm bytes maxL y ret Q) {o : Int} {x z : Int64} (tp fp : Nat) (hd : decode bytes pc = .ok (.ifCond .le o, 3)) (ht : (pc : Int) + o = tp) (hf : pc + 3 = fp)
    (wt : x.toInt ≤ z.toInt → WP k h cells slots tp ls st) (wf : z.toInt < x.toInt → WP k h cells slots fp ls st) : WP k h cells slots pc ls (.int (XT.cmpL x z) :: st) := by
  refine WP.if0 K tp fp hd ht hf (fun q => ?_) (fun q => ?_)
  · refine wt ?_
    false_or_by_contra
    rename_i c
    rw [XT.ll_le_f (by simp only [Int64.lt_iff_toInt_lt, ← Int64.toInt_inj]; omega)] at q; cases q
  · refine wf ?_
    false_or_by_contra
    rename_i c
    rw [XT.ll_le_t (by simp only [Int64.lt_iff_toInt_lt, ← Int64.toInt_inj]; omega)] at q; cases q
theorem WP.icmp_eq (K : Ok k l Z n0 rm bytes maxL y ret Q) {o : Int} {x z : Int32} (tp fp : Nat) (hd : decode bytes pc = .ok (.if_icmp .eq o, 3)) (ht : (pc : Int) + o = tp) (hf : pc + 3 = fp)
    (wt : x.toInt = z.toInt → WP k h cells slots tp ls st) (wf : x.toInt ≠ z.toInt → WP k h cells slots fp ls st) : WP k h cells slots pc ls (.int z :: .int x :: st) :=
  WP.icmp K tp fp hd ht hf (fun q => wt (by rw [h_eq] at q; exact of_decide_eq_true q)) (fun q => wf (by rw [h_eq] at q; have q := of_decide_eq_false q; omega))
theorem WP.if_eq (K : Ok k l Z n0 rm bytes maxL y ret Q) {o : Int} {x : Int32} (tp fp : Nat) (hd : decode bytes pc = .ok (.ifCond .eq o, 3)) (ht : (pc : Int) + o = tp) (hf : pc + 3 = fp)
    (wt : x.toInt = 0 → WP k h cells slots tp ls st) (wf : x.toInt ≠ 0 → WP k h cells slots fp ls st) : WP k h cells slots pc ls (.int x :: st) :=
  WP.if0 K tp fp hd ht hf (fun q => wt (by rw [RoadKit.if0, h_eq] at q; exact of_decide_eq_true q)) (fun q => wf (by rw [RoadKit.if0, h_eq] at q; have q := of_decide_eq_false q; rw [show (0 : Int32).toInt = 0 from rfl] at q; omega))
theorem WP.ifl_eq (K : Ok k l Z n0 rm bytes maxL y ret Q) {o : Int} {x z : Int64} (tp fp : Nat) (hd : decode bytes pc = .ok (.ifCond .eq o, 3)) (ht : (pc : Int) + o = tp) (hf : pc + 3 = fp)
    (wt : x.toInt = z.toInt → WP k h cells slots tp ls st) (wf : x.toInt ≠ z.toInt → WP k h cells slots fp ls st) : WP k h cells slots pc ls (.int (XT.cmpL x z) :: st) := by
  refine WP.if0 K tp fp hd ht hf (fun q => ?_) (fun q => ?_)
  · refine wt ?_
    false_or_by_contra
    rename_i c
    rw [XT.ll_eq_f (by simp only [Int64.lt_iff_toInt_lt, ← Int64.toInt_inj]; omega)] at q; cases q
  · refine wf ?_
    false_or_by_contra
    rename_i c
    rw [XT.ll_eq_t (by simp only [Int64.lt_iff_toInt_lt, ← Int64.toInt_inj]; omega)] at q; cases q
theorem WP.icmp_ne (K : Ok k l Z n0 rm bytes maxL y ret Q) {o : Int} {x z : Int32} (tp fp : Nat) (hd : decode bytes pc = .ok (.if_icmp .ne o, 3)) (ht : (pc : Int) + o = tp) (hf : pc + 3 = fp)
    (wt : x.toInt ≠ z.toInt → WP k h cells slots tp ls st) (wf : x.toInt = z.toInt → WP k h cells slots fp ls st) : WP k h cells slots pc ls (.int z :: .int x :: st) :=
  WP.icmp K tp fp hd ht hf (fun q => wt (by rw [h_ne] at q; exact of_decide_eq_true q)) (fun q => wf (by rw [h_ne] at q; have q := of_decide_eq_false q; omega))
theorem WP.if_ne (K : Ok k l Z n0 rm bytes maxL y ret Q) {o : Int} {x : Int32} (tp fp : Nat) (hd : decode bytes pc = .ok (.ifCond .ne o, 3)) (ht : (pc : Int) + o = tp) (hf : pc + 3 = fp)
    (wt : x.toInt ≠ 0 → WP k h cells slots tp ls st) (wf : x.toInt = 0 → WP k h cells slots fp ls st) : WP k h cells slots pc ls (.int x :: st) :=
  WP.if0 K tp fp hd ht hf (fun q => wt (by rw [RoadKit.if0, h_ne] at q; exact of_decide_eq_true q)) (fun q => wf (by rw [RoadKit.if0, h_ne] at q; have q := of_decide_eq_false q; rw [show (0 : Int32).toInt = 0 from rfl] at q; omega))
theorem WP.ifl_ne (K : Ok k l Z n0 rm bytes maxL y ret Q) {o : Int} {x z : Int64} (tp fp : Nat) (hd : decode bytes pc = .ok (.ifCond .ne o, 3)) (ht : (pc : Int) + o = tp) (hf : pc + 3 = fp)
    (wt : x.toInt ≠ z.toInt → WP k h cells slots tp ls st) (wf : x.toInt = z.toInt → WP k h cells slots fp ls st) : WP k h cells slots pc ls (.int (XT.cmpL x z) :: st) := by
  refine WP.if0 K tp fp hd ht hf (fun q => ?_) (fun q => ?_)
  · refine wt ?_
    false_or_by_contra
    rename_i c
    rw [XT.ll_ne_f (by simp only [Int64.lt_iff_toInt_lt, ← Int64.toInt_inj]; omega)] at q; cases q
  · refine wf ?_
    false_or_by_contra
    rename_i c
    rw [XT.ll_ne_t (by simp only [Int64.lt_iff_toInt_lt, ← Int64.toInt_inj]; omega)] at q; cases q
theorem WP.ifnull_n (K : Ok k l Z n0 rm bytes maxL y ret Q) {o : Int} (tp : Nat) (hd : decode bytes pc = .ok (.ifnull o, 3)) (ht : (pc : Int) + o = tp) (w : WP k h cells slots tp ls st) : WP k h cells slots pc ls (.null :: st) :=
  w.plain fun T A t q => XS.ifnullYes A K.hx rfl (pc0 := pc) (pc' := tp) rfl (K.dec hd) rfl (by omega) (by omega) q
theorem WP.ifnull_r (K : Ok k l Z n0 rm bytes maxL y ret Q) {o : Int} {b : Addr} (fp : Nat) (hd : decode bytes pc = .ok (.ifnull o, 3)) (hf : pc + 3 = fp) (w : WP k h cells slots fp ls st) : WP k h cells slots pc ls (.ref b :: st) := by
  subst hf; exact w.plain fun T A t q => XS.ifnullNo A K.hx rfl (K.dec hd) rfl q
theorem WP.ifnonnull_r (K : Ok k l Z n0 rm bytes maxL y ret Q) {o : Int} {b : Addr} (tp : Nat) (hd : decode bytes pc = .ok (.ifnonnull o, 3)) (ht : (pc : Int) + o = tp) (w : WP k h cells slots tp ls st) : WP k h cells slots pc ls (.ref b :: st) :=
  w.plain fun T A t q => XT.ifnonnullYes A K.hx rfl (pc0 := pc) (pc' := tp) rfl (K.dec hd) rfl (by omega) (by omega) q
theorem WP.ifnonnull_n (K : Ok k l Z n0 rm bytes maxL y ret Q) {o : Int} (fp : Nat) (hd : decode bytes pc = .ok (.ifnonnull o, 3)) (hf : pc + 3 = fp) (w : WP k h cells slots fp ls st) : WP k h cells slots pc ls (.null :: st) := by
  subst hf; exact w.plain fun T A t q => XT.ifnonnullNo A K.hx rfl (K.dec hd) rfl q
theorem WP.acmp_eq (K : Ok k l Z n0 rm bytes maxL y ret Q) {o : Int} {x z : Value} (tp fp : Nat) (hd : decode bytes pc = .ok (.if_acmp .eq o, 3)) (ht : (pc : Int) + o = tp) (hf : pc + 3 = fp) (hx : x.isRef = true) (hz : z.isRef = true)
    (wt : x = z → WP k h cells slots tp ls st) (wf : x ≠ z → WP k h cells slots fp ls st) : WP k h cells slots pc ls (z :: x :: st) := by
  subst hf
  by_cases c : x = z
  · exact (wt c).plain fun T A t q => XT.acmpYes A K.hx rfl (pc0 := pc) (pc' := tp) rfl (K.dec hd) rfl hx hz (XT.aa_eq_t c) (by omega) (by omega) q
  · exact (wf c).plain fun T A t q => XT.acmpNo A K.hx rfl (K.dec hd) rfl hx hz (XT.aa_eq_f c) q
theorem WP.acmp_ne (K : Ok k l Z n0 rm bytes maxL y ret Q) {o : Int} {x z : Value} (tp fp : Nat) (hd : decode bytes pc = .ok (.if_acmp .ne o, 3)) (ht : (pc : Int) + o = tp) (hf : pc + 3 = fp) (hx : x.isRef = true) (hz : z.isRef = true)
    (wt : x ≠ z → WP k h cells slots tp ls st) (wf : x = z → WP k h cells slots fp ls st) : WP k h cells slots pc ls (z :: x :: st) := by
  subst hf
  by_cases c : x = z
  · exact (wf c).plain fun T A t q => XT.acmpNo A K.hx rfl (K.dec hd) rfl hx hz (XT.aa_ne_f c) q
  · exact (wt c).plain fun T A t q => XT.acmpYes A K.hx rfl (pc0 := pc) (pc' := tp) rfl (K.dec hd) rfl hx hz (XT.aa_ne_t c) (by omega) (by omega) q
theorem WP.tsw (K : Ok k l Z n0 rm bytes maxL y ret Q) {d lo hi : Int} {offs : Array Int} {len : Nat} {i : Int32} (dp : Nat) (hd : decode bytes pc = .ok (.tableswitch d lo hi offs, len)) (hdp : (pc : Int) + d = dp)
    (win : ∀ j o, i.toInt = lo + (j : Nat) → i.toInt ≤ hi → offs[j]? = some o → 0 ≤ (pc : Int) + o ∧ WP k h cells slots ((pc : Int) + o).toNat ls st) (hsz : hi - lo < offs.size) (wout : i.toInt < lo ∨ hi < i.toInt → WP k h cells slots dp ls st) : WP k h cells slots pc ls (.int i :: st) := by
  by_cases c : i.toInt < lo ∨ i.toInt > hi
  · exact (wout c).plain fun T A t q => XS.tswOut A K.hx rfl (pc0 := pc) (pc' := dp) rfl (K.dec hd) rfl c (by omega) (by omega) q
  · have hj : (i.toInt - lo).toNat < offs.size := by omega
    obtain ⟨h0, w⟩ := win (i.toInt - lo).toNat _ (by omega) (by omega) (Array.getElem?_eq_getElem hj)
    exact w.plain fun T A t q => XS.tswIn A K.hx rfl (pc0 := pc) rfl (K.dec hd) rfl c (Array.getElem?_eq_getElem hj) h0 rfl q
theorem WP.ldcI (K : Ok k l Z n0 rm bytes maxL y ret Q) {a0 : Array Value} {i : Nat} {v : Int32} (pc' : Nat) (hw : (Jvm.Cond.constant y.cls i v).before a0 Z = true) (hd : decode bytes pc = .ok (.ldc i, 2)) (hp : pc + 2 = pc') (w : WP k h cells slots pc' ls (.int v :: st)) : WP k h cells slots pc ls st := by
  subst hp; exact fun T locs X e N => End.back (fun t q => Stand.ldcI X K.hx K.hown (mvT K.hZ hw) rfl (K.dec hd) q) (w T locs X e N)
theorem WP.ldcWI (K : Ok k l Z n0 rm bytes maxL y ret Q) {a0 : Array Value} {i : Nat} {v : Int32} (pc' : Nat) (hw : (Jvm.Cond.constant y.cls i v).before a0 Z = true) (hd : decode bytes pc = .ok (.ldc_w i, 3)) (hp : pc + 3 = pc') (w : WP k h cells slots pc' ls (.int v :: st)) : WP k h cells slots pc ls st := by
  subst hp; exact fun T locs X e N => End.back (fun t q => Stand.ldcWI X K.hx K.hown (mvT K.hZ hw) rfl (K.dec hd) q) (w T locs X e N)
theorem WP.ldc2J (K : Ok k l Z n0 rm bytes maxL y ret Q) {a0 : Array Value} {i : Nat} {v : Int64} (pc' : Nat) (hw : (Jvm.Cond.constantLong y.cls i v).before a0 Z = true) (hd : decode bytes pc = .ok (.ldc2_w i, 3)) (hp : pc + 3 = pc') (w : WP k h cells slots pc' ls (.long v :: st)) : WP k h cells slots pc ls st := by
  subst hp; exact fun T locs X e N => End.back (fun t q => Stand.ldc2J X K.hx K.hown (mvT K.hZ hw) rfl (K.dec hd) q) (w T locs X e N)
theorem WP.leave (K : Ok k l Z n0 rm bytes maxL y ret Q) (v : Option Value) (hv : k.meth.sig.returnType = none → v = none) (hq : Q v h) (hc : cells ≤ rm.cells) (hs : slots ≤ rm.slots)
    (st' : ∀ (T : State) (locs : List Loc), k.St T locs cells slots → ∀ fs, (∀ (f : JFrame) (acts : List Action), f.method = k.m → f.locked = none → f.entered = [] → (doReturn k.e (T.setTop f) acts v).1 = T.setFrames fs) → Steps k.p.tables k.e k.below (T.setTop (mkF k.m pc ls.toArray st)) (T.setFrames fs)) : WP k h cells slots pc ls st := by
  intro T locs X e N
  obtain ⟨fs, hr, hrun, hended, hW, hsame⟩ := Stand.leave X (v := v) hv K.hlk
  have hq' : Q v (T.setFrames fs).heap := by show Q v T.heap; rw [e]; exact hq
  refine ⟨_, _, st' T locs X fs hr, hrun, hended, v, locs, rfl, ⟨by rw [K.hQ]; exact hq', N⟩, K.hfin v _ locs hq' ⟨⟨_, rfl⟩, hW, hsame.mono (by rw [K.hR]; exact hc) (by rw [K.hR]; exact hs)⟩⟩
theorem WP.retV (K : Ok k l Z n0 rm bytes maxL y ret Q) (hr : ret = none) (hd : decode bytes pc = .ok (.return_, 1)) (hq : Q none h) (hc : cells ≤ rm.cells) (hs : slots ≤ rm.slots) : WP k h cells slots pc ls [] :=
  WP.leave K none (fun _ => rfl) hq hc hs fun T locs X fs hl => Stand.returnOut X K.hx (K.hret.trans hr) (K.dec hd) hl
theorem WP.iret (K : Ok k l Z n0 rm bytes maxL y ret Q) {z : Int32} {t : FieldType} (hr : ret = some t) (ht : t = .int ∨ t = .boolean ∨ t = .byte ∨ t = .char ∨ t = .short) (hn : narrow t (.int z) = .int z) (hd : decode bytes pc = .ok (.ireturn, 1)) (hq : Q (some (.int z)) h) (hc : cells ≤ rm.cells) (hs : slots ≤ rm.slots) : WP k h cells slots pc ls (.int z :: st) :=
  WP.leave K (some (.int z)) (fun q => by rw [K.hret, hr] at q; cases q) hq hc hs fun T locs X fs hl => RoadKit.retOut X K.hx (K.hret.trans hr) hn (Or.inl ⟨rfl, ht, z, rfl⟩) (K.dec hd) hl
theorem WP.lret (K : Ok k l Z n0 rm bytes maxL y ret Q) {z : Int64} (hr : ret = some .long) (hd : decode bytes pc = .ok (.lreturn, 1)) (hq : Q (some (.long z)) h) (hc : cells ≤ rm.cells) (hs : slots ≤ rm.slots) : WP k h cells slots pc ls (.long z :: st) :=
  WP.leave K (some (.long z)) (fun q => by rw [K.hret, hr] at q; cases q) hq hc hs fun T locs X fs hl => RoadKit.retOut X K.hx (K.hret.trans hr) rfl (Or.inr (Or.inl ⟨rfl, rfl, z, rfl⟩)) (K.dec hd) hl
theorem WP.aret (K : Ok k l Z n0 rm bytes maxL y ret Q) {v : Value} {t : FieldType} (hr : ret = some t) (ht : t.isReference = true) (hn : narrow t v = v) (hv : v.isRef = true) (hd : decode bytes pc = .ok (.areturn, 1)) (hq : Q (some v) h) (hc : cells ≤ rm.cells) (hs : slots ≤ rm.slots) : WP k h cells slots pc ls (v :: st) :=
  WP.leave K (some v) (fun q => by rw [K.hret, hr] at q; cases q) hq hc hs fun T locs X fs hl => RoadKit.retOut X K.hx (K.hret.trans hr) hn (Or.inr (Or.inr (Or.inr (Or.inr ⟨rfl, ht, hv⟩)))) (K.dec hd) hl
theorem nar_bit {z : Int32} (q : z = 0 ∨ z = 1) : narrow .boolean (.int z) = .int z := by rcases q with rfl | rfl <;> rfl
end Plain
section HeapSteps
variable {k : Cx} {l : Launch} {Z : State} {n0 : Nat} {rm : Room} {bytes : ByteArray} {maxL : Nat} {y : MethodName} {ret : Option FieldType} {Q : Option Value → Heap → Prop} {h h' : Heap} {cells slots pc : Nat} {ls : List Slot} {st : List Value} {a0 : Array Value} {a b : Addr}
theorem ne_addr {a b : Nat} (h : a ≠ b) : @Ne Addr a b := h
theorem nm0 {a : Nat} (h : (0 : Nat) = 0) : a ∉ ([] : List Addr) := List.not_mem_nil
theorem ks0 {n : Nat} {ws : List Addr} : ∀ x ∈ ([] : List Addr), x ∈ ws ∨ n ≤ x := fun x hx => absurd hx List.not_mem_nil
theorem nm1 {a b : Nat} (h : a ≠ b) : a ∉ ([b] : List Addr) := by intro q; exact h (List.mem_singleton.mp q)
theorem nm2 {a b c : Nat} (h : a ≠ b ∧ a ≠ c) : a ∉ ([b, c] : List Addr) := by
  intro q
  rcases List.mem_cons.mp q with q | q
  · exact h.1 q
  · exact h.2 (List.mem_singleton.mp q)
theorem ks1 {b n : Nat} {ws : List Addr} (h : b ∈ ws ∨ n ≤ b) : ∀ x ∈ ([b] : List Addr), x ∈ ws ∨ n ≤ x := fun x hx => by cases List.mem_singleton.mp hx; exact h
theorem ks2 {b c n : Nat} {ws : List Addr} (h : b ∈ ws ∨ n ≤ b) (h' : c ∈ ws ∨ n ≤ c) : ∀ x ∈ ([b, c] : List Addr), x ∈ ws ∨ n ≤ x := fun x hx => by
  rcases List.mem_cons.mp hx with q | q
  · rw [q]; exact h
  · cases List.mem_singleton.mp q; exact h'
theorem ext_keep (E : Ext h h') (ws : List Addr) : Keep h h' ws := (Keep.refl h ws).ext E
theorem keep_sub {ws ws' : List Addr} (K : Keep h h' ws) (q : ∀ x ∈ ws, x ∈ ws') : Keep h h' ws' := ⟨K.1, fun x c e r => K.2.1 x c e fun z => r (q x z), K.2.2⟩
theorem keep_trans {h'' : Heap} {ws : List Addr} (K : Keep h h' ws) (K' : Keep h' h'' ws) : Keep h h'' ws := K.trans K' fun x hx => Or.inl hx
theorem WP.getfield (K : Ok k l Z n0 rm bytes maxL y ret Q) {i : Nat} {R0 O n d host : String} {v : Value} (pc' : Nat) (hw : (Jvm.Cond.fieldLink y.cls i R0 n d).before a0 Z = true ∨ (Jvm.Cond.fieldLinkNest y.cls i R0 n d host).before a0 Z = true) (via : Via Z R0 O n d) (F : Fld Z h a O n d v) (hd : decode bytes pc = .ok (.getfield i, 3)) (hp : pc + 3 = pc')
    (w : WP k h cells slots pc' ls (v :: st)) : WP k h cells slots pc ls (.ref a :: st) := by
  subst hp
  intro T locs X e N
  obtain ⟨T', X', e', stp⟩ := getF X K.hx K.hZ K.hown hw via e F (g := mkF k.m pc ls.toArray (.ref a :: st)) rfl rfl (K.dec hd)
  exact End.back stp (w T' locs X' e' N)
theorem WP.getstatic (K : Ok k l Z n0 rm bytes maxL y ret Q) {i : Nat} {R0 O n d : String} {v : Value} (pc' : Nat) (hw : (Jvm.Cond.fieldLink y.cls i R0 n d).before a0 Z = true) (via : Via Z R0 O n d) (F : Sta Z h O n d v) (hd : decode bytes pc = .ok (.getstatic i, 3)) (hp : pc + 3 = pc')
    (w : WP k h cells slots pc' ls (v :: st)) : WP k h cells slots pc ls st := by
  subst hp
  intro T locs X e N
  obtain ⟨T', X', e', stp⟩ := getS X K.hx K.hZ K.hown (host := "") hw via e F (g := mkF k.m pc ls.toArray st) rfl (K.dec hd)
  exact End.back stp (w T' locs X' e' N)
theorem WP.putfield (K : Ok k l Z n0 rm bytes maxL y ret Q) {i kk : Nat} {R0 O n d host C : String} {v old : Value} {ty : FieldType} (pc' : Nat) (hw : (Jvm.Cond.fieldLink y.cls i R0 n d).before a0 Z = true ∨ (Jvm.Cond.fieldLinkNest y.cls i R0 n d host).before a0 Z = true) (via : Via Z R0 O n d) (F : Fld Z h a O n d old) (E : Exa Z h a C)
    (L : (Jvm.Cond.lays C O n d).before a0 Z = true ∨ ((Jvm.Cond.laysFinal C O n d).before a0 Z = true ∧ y.cls = O ∧ y.name = "<init>")) (wi : (Jvm.Cond.instantiable C kk).before a0 Z = true)
    (hty : parseFieldDescriptor d = some ty) (hn : narrow ty v = v) (hf : fits ty v = true) (hd : decode bytes pc = .ok (.putfield i, 3)) (hp : pc + 3 = pc') (ha : n0 ≤ a)
    (w : ∀ h', Wr h h' a (RoadKit.slotOf Z O n d) v → WP k h' cells slots pc' ls st) : WP k h cells slots pc ls (v :: .ref a :: st) := by
  subst hp
  intro T locs X e N
  obtain ⟨T', h', X', e', W', stp⟩ := putF X K.hx K.hZ K.hown hw via e F E (L.imp id fun q => ⟨q.1, q.2.1, by rw [K.hnm]; exact q.2.2⟩) wi hty hn hf (g := mkF k.m pc ls.toArray (v :: .ref a :: st)) rfl rfl (K.dec hd)
  exact End.back stp (w h' W' T' _ X' e' (Fr.snoc X' N (by rw [K.hn0]; exact ha)))
theorem WP.new (K : Ok k l Z n0 rm bytes maxL y ret Q) {i n : Nat} {C : String} (pc' cells' slots' : Nat) (h1 : (Jvm.Cond.classLink y.cls i C).before a0 Z = true) (h2 : (Jvm.Cond.instantiable C n).before a0 Z = true) (h3 : (Jvm.Cond.initialized C).before a0 Z = true) (hd : decode bytes pc = .ok (.new i, 3)) (hp : pc + 3 = pc')
    (hc : cells + 1 = cells') (hs : slots + n = slots') (hc' : cells' ≤ rm.cells) (hs' : slots' ≤ rm.slots)
    (w : ∀ h' a, a = h.size → Ext h h' → Exa Z h' a C → (∀ {O nm d : String} {ty : FieldType}, Laid Z a0 C O nm d → parseFieldDescriptor d = some ty → Fld Z h' a O nm d (defaultValue ty)) → WP k h' cells' slots' pc' ls (.ref a :: st)) : WP k h cells slots pc ls st := by
  subst hp hc hs
  intro T locs X e N
  obtain ⟨T', h', X', e', E', A', D', -, stp⟩ := newO X K.hx K.hZ K.hown h1 h2 h3 e (g := mkF k.m pc ls.toArray st) rfl (K.dec hd) (by rw [K.hR]; exact hc') (by rw [K.hR]; exact hs')
  exact End.back stp (w h' _ rfl E' A' D' T' locs X' e' N)
/-- Object.<init> -/
theorem WP.initO (K : Ok k l Z n0 rm bytes maxL y ret Q) {i : Nat} (pc' W : Nat) (h1 : (Jvm.Cond.methodLink y.cls i Lib.objectInit).before a0 Z = true) (h2 : (Jvm.Cond.instanceMethod Lib.objectInit).before a0 Z = true) (h3 : (Jvm.Cond.code Lib.objectInit ⟨#[0xb1]⟩ 1 none).before a0 Z = true) (hd : decode bytes pc = .ok (.invokespecial i, 3)) (hp : pc + 3 = pc')
    (hsz : ls.length = maxL) (hf : 1 ≤ rm.frames) (hW : (st.map fun v => v.category).sum ≤ W) (hl : W + 12 ≤ rm.locals) (w : WP k h cells slots pc' ls st) : WP k h cells slots pc ls (.ref a :: st) := by
  subst hp
  intro T locs X e N
  obtain ⟨T', X', e', stp⟩ := RoadKit.initO X K.hx K.hZ K.hown h1 h2 h3 e (g := mkF k.m pc ls.toArray (.ref a :: st)) rfl (by rw [K.hml]; simpa using hsz) rfl (K.dec hd) (by rw [K.hR]; exact hf) (W := W) (by show 2 * 0 + _ ≤ _; omega) (by rw [K.hR]; exact hl)
  exact End.back stp (w T' locs X' e' N)
/-! arrays -/
def ArV (Z : State) (h : Heap) (a : Addr) (ty : FieldType) (vs : List Value) : Prop := ∃ c : Cell, Arr Z h a c ty ∧ c.slots.toList = vs ∧ vs.length < 2 ^ 31 ∧ ∀ v ∈ vs, fits ty v = true
def ArI (Z : State) (h : Heap) (a : Addr) (xs : List Int32) : Prop := ArV Z h a .int (xs.map Value.int)
def ArJ (Z : State) (h : Heap) (a : Addr) (xs : List Int64) : Prop := ArV Z h a .long (xs.map Value.long)
def ArB (Z : State) (h : Heap) (a : Addr) (xs : List Int8) : Prop := ArV Z h a .byte (xs.map fun x => Value.int x.toInt32)
variable {ty : FieldType} {vs : List Value}
theorem ArV.lt (A : ArV Z h a ty vs) : a < h.size := by obtain ⟨c, A, -⟩ := A; exact A.lt
theorem ArV.keep {ws : List Addr} (A : ArV Z h a ty vs) (K : Keep h h' ws) (q : a ∉ ws) : ArV Z h' a ty vs := by
  obtain ⟨c, A, r⟩ := A
  exact ⟨c, ⟨K.2.1 a c A.1 q, A.2⟩, r⟩
theorem ArV.ext (A : ArV Z h a ty vs) (E : Ext h h') : ArV Z h' a ty vs := by
  obtain ⟨c, A, r⟩ := A
  exact ⟨c, A.ext E, r⟩
theorem ArV.set {i : Nat} {v : Value} (A : ArV Z h a ty vs) (W : Wr h h' a i v) (hf : fits ty v = true) : ArV Z h' a ty (vs.set i v) := by
  obtain ⟨c, A, q1, q2, q3⟩ := A
  refine ⟨c.setSlot i v, A.same W, ?_, by simpa using q2, fun u hu => ?_⟩
  · simp [Cell.setSlot, q1]
  · rcases List.mem_or_eq_of_mem_set hu with z | rfl
    · exact q3 u z
    · exact hf
theorem ArV.other {i : Nat} {v : Value} (A : ArV Z h a ty vs) (W : Wr h h' b i v) (q : a ≠ b) : ArV Z h' a ty vs := by
  obtain ⟨c, A, r⟩ := A
  exact ⟨c, A.other W q, r⟩
theorem ArV.new {cA : ClassId} {n : Int32} {m : Nat} (A : Arr Z h a (newA cA ty n) ty) (hn : n.toInt = (m : Nat)) (hf : fits ty (defaultValue ty) = true) : ArV Z h a ty (List.replicate m (defaultValue ty)) := by
  have e : n.toNatClampNeg = m := by simp only [Int32.toNatClampNeg]; omega
  refine ⟨_, A, ?_, ?_, fun v hv => ?_⟩
  · simp [newA, e]
  · have := n.toInt_lt; simp; omega
  · rw [List.eq_of_mem_replicate hv]; exact hf
theorem idx_ok {j : Int32} {i n : Nat} (hj : j.toInt = (i : Nat)) (hi : i < n) : ¬ (j < 0 ∨ n ≤ j.toNatClampNeg) ∧ j.toNatClampNeg = i := by
  have e : j.toNatClampNeg = i := by simp only [Int32.toNatClampNeg]; omega
  refine ⟨?_, e⟩
  rw [e, Int32.lt_iff_toInt_lt, show (0 : Int32).toInt = 0 from rfl]; omega
theorem size_eq {z : Int32} {n : Nat} (hz : z.toInt = (n : Nat)) : n.toInt32 = z := by
  have e : n = z.toNatClampNeg := by simp only [Int32.toNatClampNeg]; omega
  have := (back32 (n := z) (by rw [Int32.lt_iff_toInt_lt, show (0 : Int32).toInt = 0 from rfl]; omega)).1
  rw [← e] at this; exact this
theorem ArV.parts {i : Nat} {v : Value} (A : ArV Z h a ty vs) (hv : vs[i]? = some v) : ∃ c : Cell, Arr Z h a c ty ∧ i < c.slots.size ∧ c.slots[i]? = some v := by
  obtain ⟨c, A, q1, -⟩ := A
  have : i < vs.length := (List.getElem?_eq_some_iff.mp hv).1
  refine ⟨c, A, ?_, ?_⟩
  · rw [← q1] at this; simpa using this
  · rw [← q1] at hv; simpa using hv
theorem WP.arraylength (K : Ok k l Z n0 rm bytes maxL y ret Q) (z : Int32) (pc' : Nat) (A : ArV Z h a ty vs) (hz : z.toInt = (vs.length : Nat)) (hd : decode bytes pc = .ok (.arraylength, 1)) (hp : pc + 1 = pc') (w : WP k h cells slots pc' ls (.int z :: st)) : WP k h cells slots pc ls (.ref a :: st) := by
  subst hp
  intro T locs X e N
  obtain ⟨c, A, q1, -⟩ := A
  have es : c.slots.size.toInt32 = z := size_eq (by rw [hz, ← q1]; simp)
  refine End.back (fun t q => ?_) (w T locs X e N)
  exact Stand.arraylength X K.hx (cell := c) (by rw [e]; exact A.1) (State.isArrayOf_alike K.hZ.alike A.2.1) (g := mkF k.m pc ls.toArray (.ref a :: st)) rfl rfl (K.dec hd) _ (by rw [es]; exact q)
theorem WP.iaload (K : Ok k l Z n0 rm bytes maxL y ret Q) {xs : List Int32} {j x : Int32} (pc' i : Nat) (A : ArI Z h a xs) (hj : j.toInt = (i : Nat)) (hx : xs[i]? = some x) (hd : decode bytes pc = .ok (.iaload, 1)) (hp : pc + 1 = pc') (w : WP k h cells slots pc' ls (.int x :: st)) : WP k h cells slots pc ls (.int j :: .ref a :: st) := by
  subst hp
  intro T locs X e N
  obtain ⟨c, A, q1, q2⟩ := ArV.parts A (i := i) (v := .int x) (by simp [hx])
  obtain ⟨r1, r2⟩ := idx_ok hj q1
  refine End.back (fun t q => ?_) (w T locs X e N)
  exact Stand.iaload X K.hx (j := j) (v := .int x) (by rw [e]; exact A.1) (State.isArrayOf_alike K.hZ.alike A.2.1) A.2.2 r1 (by rw [r2]; exact q2) (g := mkF k.m pc ls.toArray (.int j :: .ref a :: st)) rfl rfl (K.dec hd) _ q
theorem WP.laload (K : Ok k l Z n0 rm bytes maxL y ret Q) {xs : List Int64} {j : Int32} {x : Int64} (pc' i : Nat) (A : ArJ Z h a xs) (hj : j.toInt = (i : Nat)) (hx : xs[i]? = some x) (hd : decode bytes pc = .ok (.laload, 1)) (hp : pc + 1 = pc') (w : WP k h cells slots pc' ls (.long x :: st)) : WP k h cells slots pc ls (.int j :: .ref a :: st) := by
  subst hp
  intro T locs X e N
  obtain ⟨c, A, q1, q2⟩ := ArV.parts A (i := i) (v := .long x) (by simp [hx])
  obtain ⟨r1, r2⟩ := idx_ok hj q1
  refine End.back (fun t q => ?_) (w T locs X e N)
  exact Stand.laload X K.hx (j := j) (v := .long x) (by rw [e]; exact A.1) (State.isArrayOf_alike K.hZ.alike A.2.1) A.2.2 r1 (by rw [r2]; exact q2) (g := mkF k.m pc ls.toArray (.int j :: .ref a :: st)) rfl rfl (K.dec hd) _ q
theorem WP.baload (K : Ok k l Z n0 rm bytes maxL y ret Q) {xs : List Int8} {j : Int32} {x : Int8} (pc' i : Nat) (A : ArB Z h a xs) (hj : j.toInt = (i : Nat)) (hx : xs[i]? = some x) (hd : decode bytes pc = .ok (.baload, 1)) (hp : pc + 1 = pc') (w : WP k h cells slots pc' ls (.int x.toInt32 :: st)) : WP k h cells slots pc ls (.int j :: .ref a :: st) := by
  subst hp
  intro T locs X e N
  obtain ⟨c, A, q1, q2⟩ := ArV.parts A (i := i) (v := .int x.toInt32) (by simp [hx])
  obtain ⟨r1, r2⟩ := idx_ok hj q1
  refine End.back (fun t q => ?_) (w T locs X e N)
  exact Stand.baloadBytes X K.hx (j := j) (v := .int x.toInt32) (by rw [e]; exact A.1) (State.isArrayOf_alike K.hZ.alike A.2.1) A.2.2 r1 (by rw [r2]; exact q2) (g := mkF k.m pc ls.toArray (.int j :: .ref a :: st)) rfl rfl (K.dec hd) _ q
theorem WP.aaload (K : Ok k l Z n0 rm bytes maxL y ret Q) {j : Int32} {x : Value} (pc' i : Nat) (A : ArV Z h a ty vs) (hty : ty.isReference = true) (hj : j.toInt = (i : Nat)) (hx : vs[i]? = some x) (hd : decode bytes pc = .ok (.aaload, 1)) (hp : pc + 1 = pc') (w : WP k h cells slots pc' ls (x :: st)) : WP k h cells slots pc ls (.int j :: .ref a :: st) := by
  subst hp
  intro T locs X e N
  obtain ⟨c, A, q1, q2⟩ := ArV.parts A (i := i) hx
  obtain ⟨r1, r2⟩ := idx_ok hj q1
  refine End.back (fun t q => ?_) (w T locs X e N)
  exact Stand.aaload X K.hx (j := j) (v := x) (by rw [e]; exact A.1) (State.isArrayOf_alike K.hZ.alike A.2.1) hty A.2.2 r1 (by rw [r2]; exact q2) (g := mkF k.m pc ls.toArray (.int j :: .ref a :: st)) rfl rfl (K.dec hd) _ q
theorem WP.iastore (K : Ok k l Z n0 rm bytes maxL y ret Q) {xs : List Int32} {j x : Int32} (pc' i : Nat) (A : ArI Z h a xs) (hj : j.toInt = (i : Nat)) (hi : i < xs.length) (hd : decode bytes pc = .ok (.iastore, 1)) (hp : pc + 1 = pc') (ha : n0 ≤ a)
    (w : ∀ h', Keep h h' [a] → ArI Z h' a (xs.set i x) → WP k h' cells slots pc' ls st) : WP k h cells slots pc ls (.int x :: .int j :: .ref a :: st) := by
  subst hp
  intro T locs X e N
  have A0 := A
  obtain ⟨c, A', q1, -⟩ := A
  obtain ⟨r1, r2⟩ := idx_ok hj (show i < c.slots.size by have := congrArg List.length q1; simp at this; omega)
  obtain ⟨T', h', X', e', W', stp⟩ := stI X K.hx K.hZ e A' r1 (x := x) (g := mkF k.m pc ls.toArray (.int x :: .int j :: .ref a :: st)) rfl rfl (K.dec hd)
  rw [r2] at W'
  have A2 := ArV.set A0 W' rfl
  rw [← List.map_set] at A2
  exact End.back stp (w h' (Keep.of_wr W') A2 T' _ X' e' (Fr.snoc X' N (by rw [K.hn0]; exact ha)))
theorem WP.lastore (K : Ok k l Z n0 rm bytes maxL y ret Q) {xs : List Int64} {j : Int32} {x : Int64} (pc' i : Nat) (A : ArJ Z h a xs) (hj : j.toInt = (i : Nat)) (hi : i < xs.length) (hd : decode bytes pc = .ok (.lastore, 1)) (hp : pc + 1 = pc') (ha : n0 ≤ a)
    (w : ∀ h', Keep h h' [a] → ArJ Z h' a (xs.set i x) → WP k h' cells slots pc' ls st) : WP k h cells slots pc ls (.long x :: .int j :: .ref a :: st) := by
  subst hp
  intro T locs X e N
  have A0 := A
  obtain ⟨c, A', q1, -⟩ := A
  obtain ⟨r1, r2⟩ := idx_ok hj (show i < c.slots.size by have := congrArg List.length q1; simp at this; omega)
  obtain ⟨T', h', X', e', W', stp⟩ := stJ X K.hx K.hZ e A' r1 (x := x) (g := mkF k.m pc ls.toArray (.long x :: .int j :: .ref a :: st)) rfl rfl (K.dec hd)
  rw [r2] at W'
  have A2 := ArV.set A0 W' rfl
  rw [← List.map_set] at A2
  exact End.back stp (w h' (Keep.of_wr W') A2 T' _ X' e' (Fr.snoc X' N (by rw [K.hn0]; exact ha)))
theorem WP.bastore (K : Ok k l Z n0 rm bytes maxL y ret Q) {xs : List Int8} {j x : Int32} (pc' i : Nat) (A : ArB Z h a xs) (hj : j.toInt = (i : Nat)) (hi : i < xs.length) (hd : decode bytes pc = .ok (.bastore, 1)) (hp : pc + 1 = pc') (ha : n0 ≤ a)
    (w : ∀ h', Keep h h' [a] → ArB Z h' a (xs.set i x.toInt8) → WP k h' cells slots pc' ls st) : WP k h cells slots pc ls (.int x :: .int j :: .ref a :: st) := by
  subst hp
  intro T locs X e N
  have A0 := A
  obtain ⟨c, A', q1, -⟩ := A
  obtain ⟨r1, r2⟩ := idx_ok hj (show i < c.slots.size by have := congrArg List.length q1; simp at this; omega)
  obtain ⟨T', h', X', e', W', stp⟩ := stB X K.hx K.hZ e A' r1 (x := x) (g := mkF k.m pc ls.toArray (.int x :: .int j :: .ref a :: st)) rfl rfl (K.dec hd)
  rw [r2] at W'
  have A2 : ArB Z h' a (xs.set i x.toInt8) := by
    have := ArV.set A0 W' (fits_nar_byte x)
    rw [show Value.int (nar .byte x) = (fun z : Int8 => Value.int z.toInt32) x.toInt8 from rfl, ← List.map_set] at this
    exact this
  exact End.back stp (w h' (Keep.of_wr W') A2 T' _ X' e' (Fr.snoc X' N (by rw [K.hn0]; exact ha)))
theorem WP.newarray (K : Ok k l Z n0 rm bytes maxL y ret Q) {aty : ArrayType} {n : Int32} (pc' m cap cells' slots' : Nat) (hw : (Jvm.Cond.arrayClass (newarray.typeOf aty)).before a0 Z = true) (hd : decode bytes pc = .ok (.newarray aty, 2)) (hp : pc + 2 = pc') (hn : n.toInt = (m : Nat)) (hcap : m ≤ cap) (hb : cap * 8 ≤ 536870912)
    (hc : cells + 1 = cells') (hs : slots + cap = slots') (hc' : cells' ≤ rm.cells) (hs' : slots' ≤ rm.slots)
    (w : ∀ h' a, a = h.size → Ext h h' → ArV Z h' a (newarray.typeOf aty) (List.replicate m (defaultValue (newarray.typeOf aty))) → WP k h' cells' slots' pc' ls (.ref a :: st)) : WP k h cells slots pc ls (.int n :: st) := by
  subst hp hc hs
  intro T locs X e N
  have hn' : ¬ n < 0 := by rw [Int32.lt_iff_toInt_lt, show (0 : Int32).toInt = 0 from rfl]; omega
  obtain ⟨T', h', cA, X', e', E', A', stp⟩ := newP X K.hx K.hZ hw e (g := mkF k.m pc ls.toArray (.int n :: st)) rfl (K.dec hd) rfl hn' (cap := cap) (by simp only [Int32.toNatClampNeg]; omega) hb (by rw [K.hR]; exact hc') (by rw [K.hR]; exact hs')
  exact End.back stp (w h' _ rfl E' (ArV.new A' hn (by cases aty <;> rfl)) T' locs X' e' N)
theorem WP.newarrayE (K : Ok k l Z n0 rm bytes maxL y ret Q) {aty : ArrayType} {n : Int32} {ad : String} (pc' m cap cells' slots' : Nat) (hw : (Jvm.Cond.arrayClass (newarray.typeOf aty)).before a0 Z = true) (hd : decode bytes pc = .ok (.newarray aty, 2)) (hp : pc + 2 = pc') (hn : n.toInt = (m : Nat)) (hcap : m ≤ cap) (hb : cap * 8 ≤ 536870912)
    (hc : cells + 1 = cells') (hs : slots + cap = slots') (hc' : cells' ≤ rm.cells) (hs' : slots' ≤ rm.slots) (had : "[" ++ (newarray.typeOf aty).toString = ad)
    (w : ∀ h' a, a = h.size → Ext h h' → ArV Z h' a (newarray.typeOf aty) (List.replicate m (defaultValue (newarray.typeOf aty))) → Exa Z h' a ad → WP k h' cells' slots' pc' ls (.ref a :: st)) : WP k h cells slots pc ls (.int n :: st) := by
  subst hp hc hs
  intro T locs X e N
  have hn' : ¬ n < 0 := by rw [Int32.lt_iff_toInt_lt, show (0 : Int32).toInt = 0 from rfl]; omega
  obtain ⟨T', h', cA, X', e', E', A', XA, stp⟩ := newPE X K.hx K.hZ hw e (g := mkF k.m pc ls.toArray (.int n :: st)) rfl (K.dec hd) rfl hn' (cap := cap) (by simp only [Int32.toNatClampNeg]; omega) hb (by rw [K.hR]; exact hc') (by rw [K.hR]; exact hs') had
  exact End.back stp (w h' _ rfl E' (ArV.new A' hn (by cases aty <;> rfl)) XA T' locs X' e' N)
/-! arrays of references -/
def ArR (Z : State) (h : Heap) (a : Addr) (ty : FieldType) (C : String) (vs : List Value) : Prop := ∃ c : Cell, Arr Z h a c ty ∧ c.slots.toList = vs ∧ vs.length < 2 ^ 31 ∧ (∀ v ∈ vs, fits ty v = true) ∧ ∃ (kk : Class) (comp : ClassId) (t : FieldType), Z.vm.classes[c.cls]? = some kk ∧ kk.kind = .array comp t ∧ Z.vm.findClass C = some comp
variable {C : String}
theorem ArR.v (A : ArR Z h a ty C vs) : ArV Z h a ty vs := by obtain ⟨c, q1, q2, q3, q4, -⟩ := A; exact ⟨c, q1, q2, q3, q4⟩
theorem ArR.lt (A : ArR Z h a ty C vs) : a < h.size := A.v.lt
theorem ArR.len (A : ArR Z h a ty C vs) : vs.length < 2 ^ 31 := by obtain ⟨c, -, -, q, -⟩ := A; exact q
theorem ArR.keep {ws : List Addr} (A : ArR Z h a ty C vs) (K : Keep h h' ws) (q : a ∉ ws) : ArR Z h' a ty C vs := by
  obtain ⟨c, A, r⟩ := A
  exact ⟨c, ⟨K.2.1 a c A.1 q, A.2⟩, r⟩
theorem ArR.ext (A : ArR Z h a ty C vs) (E : Ext h h') : ArR Z h' a ty C vs := by
  obtain ⟨c, A, r⟩ := A
  exact ⟨c, A.ext E, r⟩
theorem ArR.other {i : Nat} {v : Value} (A : ArR Z h a ty C vs) (W : Wr h h' b i v) (q : a ≠ b) : ArR Z h' a ty C vs := by
  obtain ⟨c, A, r⟩ := A
  exact ⟨c, A.other W q, r⟩
theorem ArR.sto {x : Addr} (A : ArR Z h a ty C vs) (I : Ins Z h x C true) : Sto Z h a (.ref x) := by
  obtain ⟨c, A, -, -, -, kk, comp, t, o1, o2, o3⟩ := A
  obtain ⟨cv, cT, i1, i2, i3⟩ := I
  cases o3.symm.trans i2
  simp only [Bool.and_eq_true, Bool.not_eq_true'] at i3
  obtain ⟨kc, q⟩ := Vm.classAt_of_findClass o3
  obtain ⟨kv, q2⟩ := Vm.classAt_of_assignable i3.2 ⟨kc, q⟩
  exact Or.inr ⟨c, cv, kk, kv, kc, _, _, x, A.1, o1, o2, q, rfl, i1, i3.1, q2, i3.2⟩
theorem WP.aastore (K : Ok k l Z n0 rm bytes maxL y ret Q) {j : Int32} {v : Value} (pc' i : Nat) (A : ArR Z h a ty C vs) (hty : ty.isReference = true) (F : Sto Z h a v) (hf : fits ty v = true) (hj : j.toInt = (i : Nat)) (hi : i < vs.length) (hd : decode bytes pc = .ok (.aastore, 1)) (hp : pc + 1 = pc') (ha : n0 ≤ a)
    (w : ∀ h', Keep h h' [a] → ArR Z h' a ty C (vs.set i v) → WP k h' cells slots pc' ls st) : WP k h cells slots pc ls (v :: .int j :: .ref a :: st) := by
  subst hp
  intro T locs X e N
  obtain ⟨c, A', q1, q2, q3, q4⟩ := A
  obtain ⟨r1, r2⟩ := idx_ok hj (show i < c.slots.size by have := congrArg List.length q1; simp at this; omega)
  obtain ⟨T', h', X', e', W', stp⟩ := stR X K.hx K.hZ e A' r1 hty F (g := mkF k.m pc ls.toArray (v :: .int j :: .ref a :: st)) rfl rfl (K.dec hd)
  rw [r2] at W'
  have A2 : ArR Z h' a ty C (vs.set i v) := by
    refine ⟨c.setSlot i v, A'.same W', by simp [Cell.setSlot, q1], by simpa using q2, fun u hu => ?_, q4⟩
    rcases List.mem_or_eq_of_mem_set hu with z | rfl
    · exact q3 u z
    · exact hf
  exact End.back stp (w h' (Keep.of_wr W') A2 T' _ X' e' (Fr.snoc X' N (by rw [K.hn0]; exact ha)))
theorem new_ref {cA : ClassId} {n : Int32} {m : Nat} (A : Arr Z h a (newA cA ty n) ty) (hr : ty.isReference = true) (hn : n.toInt = (m : Nat)) (O : ∃ (kk : Class) (comp : ClassId) (t : FieldType), Z.vm.classes[cA]? = some kk ∧ kk.kind = .array comp t ∧ Z.vm.findClass C = some comp) : ArR Z h a ty C (List.replicate m .null) := by
  have e : n.toNatClampNeg = m := by simp only [Int32.toNatClampNeg]; omega
  have d : defaultValue ty = .null := by cases ty <;> simp [FieldType.isReference] at hr <;> rfl
  refine ⟨_, A, ?_, ?_, fun v hv => ?_, O⟩
  · simp [newA, e, d]
  · have := n.toInt_lt; simp; omega
  · rw [List.eq_of_mem_replicate hv]; cases ty <;> simp [FieldType.isReference] at hr <;> rfl
theorem WP.anewarrayA (K : Ok k l Z n0 rm bytes maxL y ret Q) {i : Nat} {et : FieldType} {n : Int32} (pc' m cap cells' slots' : Nat) (hC : (FieldType.array et).toString = C) (h1 : (Jvm.Cond.classLink y.cls i C).before a0 Z = true) (h2 : (Jvm.Cond.arrayOver (.array et)).before a0 Z = true) (hd : decode bytes pc = .ok (.anewarray i, 3)) (hp : pc + 3 = pc') (hn : n.toInt = (m : Nat)) (hcap : m ≤ cap) (hb : cap * 8 ≤ 536870912)
    (hc : cells + 1 = cells') (hs : slots + cap = slots') (hc' : cells' ≤ rm.cells) (hs' : slots' ≤ rm.slots)
    (w : ∀ h' a, a = h.size → Ext h h' → ArR Z h' a (.array et) C (List.replicate m .null) → WP k h' cells' slots' pc' ls (.ref a :: st)) : WP k h cells slots pc ls (.int n :: st) := by
  subst hp hc hs
  intro T locs X e N
  have hn' : ¬ n < 0 := by rw [Int32.lt_iff_toInt_lt, show (0 : Int32).toInt = 0 from rfl]; omega
  obtain ⟨T', h', cA, X', e', E', A', -, O, stp⟩ := newRA X K.hx K.hZ K.hown hC h1 h2 e (g := mkF k.m pc ls.toArray (.int n :: st)) rfl (K.dec hd) rfl hn' (cap := cap) (by simp only [Int32.toNatClampNeg]; omega) hb (by rw [K.hR]; exact hc') (by rw [K.hR]; exact hs') (ad := "[" ++ C) rfl
  obtain ⟨kk, comp, o1, o2, o3⟩ := O
  exact End.back stp (w h' _ rfl E' (new_ref A' rfl hn ⟨kk, comp, _, o1, o2, o3⟩) T' locs X' e' N)
theorem WP.anewarrayO (K : Ok k l Z n0 rm bytes maxL y ret Q) {i : Nat} {n : Int32} (pc' m cap cells' slots' : Nat) (h1 : (Jvm.Cond.classLink y.cls i C).before a0 Z = true) (h2 : (Jvm.Cond.arrayOver (.object C)).before a0 Z = true) (hd : decode bytes pc = .ok (.anewarray i, 3)) (hp : pc + 3 = pc') (hn : n.toInt = (m : Nat)) (hcap : m ≤ cap) (hb : cap * 8 ≤ 536870912)
    (hc : cells + 1 = cells') (hs : slots + cap = slots') (hc' : cells' ≤ rm.cells) (hs' : slots' ≤ rm.slots)
    (w : ∀ h' a, a = h.size → Ext h h' → ArR Z h' a (.object C) C (List.replicate m .null) → WP k h' cells' slots' pc' ls (.ref a :: st)) : WP k h cells slots pc ls (.int n :: st) := by
  subst hp hc hs
  intro T locs X e N
  have hn' : ¬ n < 0 := by rw [Int32.lt_iff_toInt_lt, show (0 : Int32).toInt = 0 from rfl]; omega
  obtain ⟨T', h', cA, X', e', E', A', O, stp⟩ := newR X K.hx K.hZ K.hown h1 h2 e (g := mkF k.m pc ls.toArray (.int n :: st)) rfl (K.dec hd) rfl hn' (cap := cap) (by simp only [Int32.toNatClampNeg]; omega) hb (by rw [K.hR]; exact hc') (by rw [K.hR]; exact hs')
  obtain ⟨kk, comp, o1, o2, o3⟩ := O
  exact End.back stp (w h' _ rfl E' (new_ref A' rfl hn ⟨kk, comp, _, o1, o2, o3⟩) T' locs X' e' N)
theorem ArI.of_new {m : Nat} (A : ArV Z h a (newarray.typeOf .int) (List.replicate m (defaultValue (newarray.typeOf .int)))) : ArI Z h a (List.replicate m 0) := by
  unfold ArI; rw [List.map_replicate]; exact A
theorem ArJ.of_new {m : Nat} (A : ArV Z h a (newarray.typeOf .long) (List.replicate m (defaultValue (newarray.typeOf .long)))) : ArJ Z h a (List.replicate m 0) := by
  unfold ArJ; rw [List.map_replicate]; exact A
theorem ArB.of_new {m : Nat} (A : ArV Z h a (newarray.typeOf .byte) (List.replicate m (defaultValue (newarray.typeOf .byte)))) : ArB Z h a (List.replicate m 0) := by
  unfold ArB; rw [List.map_replicate]; exact A
theorem ArI.len {xs : List Int32} (A : ArI Z h a xs) : xs.length < 2 ^ 31 := by obtain ⟨c, -, -, q, -⟩ := A; simpa using q
theorem ArJ.len {xs : List Int64} (A : ArJ Z h a xs) : xs.length < 2 ^ 31 := by obtain ⟨c, -, -, q, -⟩ := A; simpa using q
theorem ArB.len {xs : List Int8} (A : ArB Z h a xs) : xs.length < 2 ^ 31 := by obtain ⟨c, -, -, q, -⟩ := A; simpa using q
theorem ArI.lt {xs : List Int32} (A : ArI Z h a xs) : a < h.size := ArV.lt A
theorem ArI.keep {xs : List Int32} {ws : List Addr} (A : ArI Z h a xs) (K : Keep h h' ws) (q : a ∉ ws) : ArI Z h' a xs := ArV.keep A K q
theorem ArI.ext {xs : List Int32} (A : ArI Z h a xs) (E : Ext h h') : ArI Z h' a xs := ArV.ext A E
theorem ArI.other {xs : List Int32} {i : Nat} {v : Value} (A : ArI Z h a xs) (W : Wr h h' b i v) (q : a ≠ b) : ArI Z h' a xs := ArV.other A W q
theorem ArJ.lt {xs : List Int64} (A : ArJ Z h a xs) : a < h.size := ArV.lt A
theorem ArJ.keep {xs : List Int64} {ws : List Addr} (A : ArJ Z h a xs) (K : Keep h h' ws) (q : a ∉ ws) : ArJ Z h' a xs := ArV.keep A K q
theorem ArJ.ext {xs : List Int64} (A : ArJ Z h a xs) (E : Ext h h') : ArJ Z h' a xs := ArV.ext A E
theorem ArJ.other {xs : List Int64} {i : Nat} {v : Value} (A : ArJ Z h a xs) (W : Wr h h' b i v) (q : a ≠ b) : ArJ Z h' a xs := ArV.other A W q
theorem ArB.lt {xs : List Int8} (A : ArB Z h a xs) : a < h.size := ArV.lt A
theorem ArB.keep {xs : List Int8} {ws : List Addr} (A : ArB Z h a xs) (K : Keep h h' ws) (q : a ∉ ws) : ArB Z h' a xs := ArV.keep A K q
theorem ArB.ext {xs : List Int8} (A : ArB Z h a xs) (E : Ext h h') : ArB Z h' a xs := ArV.ext A E
theorem ArB.other {xs : List Int8} {i : Nat} {v : Value} (A : ArB Z h a xs) (W : Wr h h' b i v) (q : a ≠ b) : ArB Z h' a xs := ArV.other A W q
/-! calls by contract -/
theorem WP.callS (K : Ok k l Z n0 rm bytes maxL y ret Q) {i maxL' : Nat} {y' : MethodName} {bytes' : ByteArray} {ret' : Option FieldType} {rm' : Room} {as : Array Value} {Q' : Option Value → Heap → Prop} {ps : List FieldType} {rt : Option FieldType} (pc' cells' slots' W : Nat) (argsL rest : List Value)
    (h1 : (Jvm.Cond.methodLink y.cls i y').before a0 Z = true) (h2 : (Jvm.Cond.static y').before a0 Z = true) (h3 : (Jvm.Cond.initialized y'.cls).before a0 Z = true) (h4 : (Jvm.Cond.code y' bytes' maxL' ret').before a0 Z = true)
    (hy : y'.cls ≠ "java/lang/invoke/MethodHandle" ∧ y'.cls ≠ "java/lang/invoke/VarHandle") (hpd : parseMethodDescriptor y'.desc = some ⟨ps, rt⟩) (hlen : argsL.length = ps.length) (has : argsL.toArray = as) (hst : argsL.reverse ++ rest = st)
    (hf : rm'.frames + 1 ≤ rm.frames) (hl : W + (maxL' + 11) + rm'.locals ≤ rm.locals) (hW : (rest.map fun v => v.category).sum ≤ W) (hsz : ls.length = maxL) (hd : decode bytes pc = .ok (.invokestatic i, 3)) (hp : pc + 3 = pc')
    (hc : cells + rm'.cells = cells') (hs : slots + rm'.slots = slots') (hc' : cells' ≤ rm.cells) (hs' : slots' ≤ rm.slots) (C : Con l Z y' bytes' maxL' ret' rm' n0 as h Q')
    (w : ∀ v h', Q' v h' → WP k h' cells' slots' pc' ls (v.toList ++ rest)) : WP k h cells slots pc ls st := by
  subst hp hc hs hst has
  obtain ⟨hx, hZ, rfl, hby, hml, hown, hret, hlk, hnm, rfl, rfl, rfl, rfl, hfin⟩ := K
  intro T locs X e N
  obtain ⟨v, vm1, ⟨T', L', k', n'⟩, -, X', ⟨Lc, ⟨hQ, hN⟩, l', y'', z'⟩, stp⟩ := Jvm.LawKit.callS X hx hown (mvT hZ h1) (mvT hZ h2) (mvT hZ h3) (mvT hZ h4) hy (backOf (W := W) (Q := fun v h L => Q' v h ∧ Fr k.n0 L) (C []) hZ h4 h3 hf hl) (g := mkF k.m pc ls.toArray (argsL.reverse ++ rest)) rfl (by rw [hml]; simpa using hsz) (lenOf hpd hlen) rfl (by show 2 * 0 + _ ≤ _; omega) (hb hby hd) (fun _ _ => ⟨rfl, e, hc', hs'⟩)
  dsimp only [Pt.U, Pt.locs, Pt.cells, Pt.slots] at X' l' y'' z' stp hQ
  subst l' y'' z'
  exact End.back stp (w v _ hQ T' _ X' rfl (Fr.app N hN))
theorem WP.callI (K : Ok k l Z n0 rm bytes maxL y ret Q) {i maxL' : Nat} {y' : MethodName} {bytes' : ByteArray} {rm' : Room} {as : Array Value} {Q' : Option Value → Heap → Prop} {ps : List FieldType} {rt : Option FieldType} (pc' cells' slots' W : Nat) (argsL rest : List Value)
    (h1 : (Jvm.Cond.methodLink y.cls i y').before a0 Z = true) (h2 : (Jvm.Cond.instanceMethod y').before a0 Z = true) (h3 : (Jvm.Cond.initialized y'.cls).before a0 Z = true) (h4 : (Jvm.Cond.code y' bytes' maxL' none).before a0 Z = true) (hy1 : y'.name = "<init>")
    (hy : y'.cls ≠ "java/lang/invoke/MethodHandle" ∧ y'.cls ≠ "java/lang/invoke/VarHandle") (hpd : parseMethodDescriptor y'.desc = some ⟨ps, rt⟩) (hlen : argsL.length = ps.length) (has : (.ref a :: argsL).toArray = as) (hst : argsL.reverse ++ .ref a :: rest = st)
    (hf : rm'.frames + 1 ≤ rm.frames) (hl : W + (maxL' + 11) + rm'.locals ≤ rm.locals) (hW : (rest.map fun v => v.category).sum ≤ W) (hsz : ls.length = maxL) (hd : decode bytes pc = .ok (.invokespecial i, 3)) (hp : pc + 3 = pc')
    (hc : cells + rm'.cells = cells') (hs : slots + rm'.slots = slots') (hc' : cells' ≤ rm.cells) (hs' : slots' ≤ rm.slots) (C : Con l Z y' bytes' maxL' none rm' n0 as h Q')
    (w : ∀ v h', Q' v h' → WP k h' cells' slots' pc' ls (v.toList ++ rest)) : WP k h cells slots pc ls st := by
  subst hp hc hs hst has
  obtain ⟨hx, hZ, rfl, hby, hml, hown, hret, hlk, hnm, rfl, rfl, rfl, rfl, hfin⟩ := K
  intro T locs X e N
  obtain ⟨v, vm1, ⟨T', L', k', n'⟩, -, X', ⟨Lc, ⟨hQ, hN⟩, l', y'', z'⟩, stp⟩ := Stand.specialBack X hx hy1 hown (mvT hZ h1) (mvT hZ h2) (mvT hZ h4) hy (backOf (W := W) (Q := fun v h L => Q' v h ∧ Fr k.n0 L) (C []) hZ h4 h3 hf hl) (g := mkF k.m pc ls.toArray (argsL.reverse ++ .ref a :: rest)) rfl (by rw [hml]; simpa using hsz) (Steps.refl _) (a := a) (argsL := argsL) (rest := rest) (lenOf hpd hlen) rfl (by show 2 * 0 + _ ≤ _; omega) (hb hby hd) (fun _ _ => ⟨rfl, e, hc', hs'⟩)
  dsimp only [Pt.U, Pt.locs, Pt.cells, Pt.slots] at X' l' y'' z' stp hQ
  subst l' y'' z'
  exact End.back (fun t q => stp.trans q) (w v _ hQ T' _ X' rfl (Fr.app N hN))
theorem WP.callV (K : Ok k l Z n0 rm bytes maxL y ret Q) {i maxL' : Nat} {y' z : MethodName} {C : String} {bytes' : ByteArray} {ret' : Option FieldType} {rm' : Room} {as : Array Value} {Q' : Option Value → Heap → Prop} {ps : List FieldType} {rt : Option FieldType} (pc' cells' slots' W : Nat) (argsL rest : List Value)
    (h1 : (Jvm.Cond.methodLink y.cls i y').before a0 Z = true) (h2 : (Jvm.Cond.declares y').before a0 Z = true) (hzy : z = y') (h5 : (Jvm.Cond.selects C y' z).before a0 Z = true) (h6 : (Jvm.Cond.instanceMethod z).before a0 Z = true) (h3 : (Jvm.Cond.initialized z.cls).before a0 Z = true) (h4 : (Jvm.Cond.code z bytes' maxL' ret').before a0 Z = true)
    (hy : y'.cls ≠ "java/lang/invoke/MethodHandle" ∧ y'.cls ≠ "java/lang/invoke/VarHandle") (hpd : parseMethodDescriptor y'.desc = some ⟨ps, rt⟩) (hlen : argsL.length = ps.length) (has : (.ref a :: argsL).toArray = as) (hst : argsL.reverse ++ .ref a :: rest = st)
    (hf : rm'.frames + 1 ≤ rm.frames) (hl : W + (maxL' + 11) + rm'.locals ≤ rm.locals) (hW : (rest.map fun v => v.category).sum ≤ W) (hsz : ls.length = maxL) (hd : decode bytes pc = .ok (.invokevirtual i, 3)) (hp : pc + 3 = pc')
    (hc : cells + rm'.cells = cells') (hs : slots + rm'.slots = slots') (hc' : cells' ≤ rm.cells) (hs' : slots' ≤ rm.slots) (E : Exa Z h a C) (Cn : Con l Z z bytes' maxL' ret' rm' n0 as h Q')
    (w : ∀ v h', Q' v h' → WP k h' cells' slots' pc' ls (v.toList ++ rest)) : WP k h cells slots pc ls st := by
  subst hzy hp hc hs hst has
  obtain ⟨hx, hZ, rfl, hby, hml, hown, hret, hlk, hnm, rfl, rfl, rfl, rfl, hfin⟩ := K
  intro T locs X e N
  obtain ⟨cq, kq, qa, qb, qc⟩ := isOf hZ e E
  obtain ⟨v, vm1, ⟨T', L', k', n'⟩, -, X', ⟨Lc, ⟨hQ, hN⟩, l', y'', z'⟩, stp⟩ := Stand.virtualBack X hx hown (mvT hZ h1) (mvT hZ h2) (notFace_of_selects (args := #[]) (mvT hZ h5)) (mvT hZ h5) (mvT hZ h6) hy (backOf (W := W) (Q := fun v h L => Q' v h ∧ Fr k.n0 L) (Cn []) hZ h4 h3 hf hl) qa qc (g := mkF k.m pc ls.toArray (argsL.reverse ++ .ref a :: rest)) rfl (by rw [hml]; simpa using hsz) (Steps.refl _) (argsL := argsL) (rest := rest) (lenOf hpd hlen) rfl (by show 2 * 0 + _ ≤ _; omega) (hb hby hd) (fun _ _ => ⟨rfl, e, hc', hs'⟩)
  dsimp only [Pt.U, Pt.locs, Pt.cells, Pt.slots] at X' l' y'' z' stp hQ
  subst l' y'' z'
  exact End.back (fun t q => stp.trans q) (w v _ hQ T' _ X' rfl (Fr.app N hN))
theorem r1_next {Q' : Value → Heap → Prop} {cells' slots' pc' : Nat} {rest : List Value} (w : ∀ r h', Q' r h' → WP k h' cells' slots' pc' ls (r :: rest)) : ∀ v h', R1 Q' v h' → WP k h' cells' slots' pc' ls (v.toList ++ rest) := fun v h' q => by
  obtain ⟨r, rfl, q⟩ := q; exact w r h' q
theorem r0_next {Q' : Heap → Prop} {cells' slots' pc' : Nat} {rest : List Value} (w : ∀ h', Q' h' → WP k h' cells' slots' pc' ls rest) : ∀ v h', R0 Q' v h' → WP k h' cells' slots' pc' ls (v.toList ++ rest) := fun v h' q => by
  obtain ⟨rfl, q⟩ := q; exact w h' q
end HeapSteps
end Jvm.OwnWP
namespace Jvm.OwnWP
theorem i32_of {n : Nat} (h : n < 2 ^ 31) : ∃ z : Int32, z.toInt = (n : Nat) := ⟨Int32.ofNat n, Int32.toInt_ofNat_of_lt h⟩
theorem i32_rng (x : Int32) : -2147483648 ≤ x.toInt ∧ x.toInt < 2147483648 := ⟨x.le_toInt, x.toInt_lt⟩
theorem i64_rng (x : Int64) : -9223372036854775808 ≤ x.toInt ∧ x.toInt < 9223372036854775808 := ⟨x.le_toInt, x.toInt_lt⟩
theorem i32_add {x y : Int32} (h1 : -2147483648 ≤ x.toInt + y.toInt) (h2 : x.toInt + y.toInt < 2147483648) : (x + y).toInt = x.toInt + y.toInt := Jvm.Free.XT.add32 ⟨by omega, by omega⟩
theorem i32_sub {x y : Int32} (h1 : -2147483648 ≤ x.toInt - y.toInt) (h2 : x.toInt - y.toInt < 2147483648) : (x - y).toInt = x.toInt - y.toInt := Jvm.Free.XT.sub32 ⟨by omega, by omega⟩
theorem i64_add {x y : Int64} (h1 : -9223372036854775808 ≤ x.toInt + y.toInt) (h2 : x.toInt + y.toInt < 9223372036854775808) : (x + y).toInt = x.toInt + y.toInt := Jvm.Free.XT.add64 ⟨by omega, by omega⟩
theorem i64_sub {x y : Int64} (h1 : -9223372036854775808 ≤ x.toInt - y.toInt) (h2 : x.toInt - y.toInt < 9223372036854775808) : (x - y).toInt = x.toInt - y.toInt := Jvm.Free.XT.sub64 ⟨by omega, by omega⟩
theorem inc32 {x : Int32} {n : Nat} (h : x.toInt = (n : Nat)) (hn : n < 2147483647) : (x + (1 : Int32)).toInt = ((n + 1 : Nat) : Int) := by
  have e1 : (1 : Int32).toInt = 1 := rfl
  rw [i32_add (by omega) (by omega)]; omega
theorem i32_eq {x y : Int32} (h : x.toInt = y.toInt) : x = y := Int32.toInt_inj.mp h
theorem i64_eq {x y : Int64} (h : x.toInt = y.toInt) : x = y := Int64.toInt_inj.mp h
theorem ite01 (P : Prop) [Decidable P] : ∃ t : Int, (if P then (1 : Int) else 0) = t ∧ (P → t = 1) ∧ (¬ P → t = 0) := by
  by_cases h : P
  · exact ⟨1, by simp [h], fun _ => rfl, fun q => absurd h q⟩
  · exact ⟨0, by simp [h], fun q => absurd q h, fun _ => rfl⟩
theorem i32_mul {x y : Int32} (h1 : -2147483648 ≤ x.toInt * y.toInt) (h2 : x.toInt * y.toInt < 2147483648) : (x * y).toInt = x.toInt * y.toInt := Jvm.Free.XT.mul32 ⟨by omega, by omega⟩
theorem st1 {ls : List Slot} {i : Nat} {o : Slot} {v : Value} (h : ls[i]? = some o) (ho : Jvm.RoadKit.One o) (hv : v.category = 1) : storeLocals ls.toArray i v = some (ls.set i (.val v)).toArray := by
  rw [Jvm.Free.XS.store1 (o := o) (by simpa using h) ho hv]; simp
theorem ushr1 {x : Int32} (h : 0 ≤ x.toInt) : (Jvm.Free.XT.ushr x 1).toInt = x.toInt / 2 := by
  have := Jvm.RoadKit.c_iushr x 1 1 rfl (by decide)
  have r := i32_rng x
  unfold Jvm.Free.XT.ushr
  rw [this]; omega
def min32 (x y : Int32) : Int32 := if x.toInt ≤ y.toInt then x else y
def max32 (x y : Int32) : Int32 := if x.toInt ≤ y.toInt then y else x
theorem min32_spec (x y : Int32) : (x.toInt ≤ y.toInt → (min32 x y).toInt = x.toInt) ∧ (y.toInt < x.toInt → (min32 x y).toInt = y.toInt) := by
  unfold min32; split <;> constructor <;> intro <;> first | rfl | omega
theorem max32_spec (x y : Int32) : (x.toInt ≤ y.toInt → (max32 x y).toInt = y.toInt) ∧ (y.toInt < x.toInt → (max32 x y).toInt = x.toInt) := by
  unfold max32; split <;> constructor <;> intro <;> first | rfl | omega
def min64 (x y : Int64) : Int64 := if x.toInt ≤ y.toInt then x else y
def max64 (x y : Int64) : Int64 := if x.toInt ≤ y.toInt then y else x
theorem min64_spec (x y : Int64) : (x.toInt ≤ y.toInt → (min64 x y).toInt = x.toInt) ∧ (y.toInt < x.toInt → (min64 x y).toInt = y.toInt) := by
  unfold min64; split <;> constructor <;> intro <;> first | rfl | omega
theorem max64_spec (x y : Int64) : (x.toInt ≤ y.toInt → (max64 x y).toInt = y.toInt) ∧ (y.toInt < x.toInt → (max64 x y).toInt = x.toInt) := by
  unfold max64; split <;> constructor <;> intro <;> first | rfl | omega
end Jvm.OwnWP

namespace Jvm.OwnWP
open Sem ClassFile Op Lib Jvm.Stand Jvm.Free Jvm.LawKit Jvm.RoadKit Jvm.Free.Fl
theorem g_dload {tb : Tables} [Ours tb] {e : Env} {below : List Frame} {T target : State} {m : MethodId} {c : Code} {g : JFrame} (h : At T m c below) (hx : tb.exec = Jvm.exec) (hg : g.method = m) {k : Nat} {v : UInt64} (hd : decode c.code g.pc = .ok (.dload k, 2)) (hl : g.locals[k]? = some (.val (.double v)))
    (hr : Steps tb e below (T.setTop { g with pc := g.pc + 2, stack := .double v :: g.stack }) target) : Steps tb e below (T.setTop g) target := by
  subst hg
  jvm_step h [h.top, hx, hd, hl]
  exact hr
theorem g_dloadN {tb : Tables} [Ours tb] {e : Env} {below : List Frame} {T target : State} {m : MethodId} {c : Code} {g : JFrame} (h : At T m c below) (hx : tb.exec = Jvm.exec) (hg : g.method = m) {k : Fin 4} {v : UInt64} (hd : decode c.code g.pc = .ok (.dload_n k, 1)) (hl : g.locals[k.val]? = some (.val (.double v)))
    (hr : Steps tb e below (T.setTop { g with pc := g.pc + 1, stack := .double v :: g.stack }) target) : Steps tb e below (T.setTop g) target := by
  subst hg
  jvm_step h [h.top, hx, hd, hl]
  exact hr
theorem g_dstore {tb : Tables} [Ours tb] {e : Env} {below : List Frame} {T target : State} {m : MethodId} {c : Code} {g : JFrame} (h : At T m c below) (hx : tb.exec = Jvm.exec) (hg : g.method = m) {k : Nat} {x : UInt64} {rest : List Value} {l' : Array Slot} (hd : decode c.code g.pc = .ok (.dstore k, 2)) (hs : g.stack = .double x :: rest) (hl : storeLocals g.locals k (.double x) = some l')
    (hr : Steps tb e below (T.setTop { g with pc := g.pc + 2, stack := rest, locals := l' }) target) : Steps tb e below (T.setTop g) target := by
  subst hg
  jvm_step h [h.top, hx, hd, hs, hl]
  exact hr
theorem g_dstoreN {tb : Tables} [Ours tb] {e : Env} {below : List Frame} {T target : State} {m : MethodId} {c : Code} {g : JFrame} (h : At T m c below) (hx : tb.exec = Jvm.exec) (hg : g.method = m) {k : Fin 4} {x : UInt64} {rest : List Value} {l' : Array Slot} (hd : decode c.code g.pc = .ok (.dstore_n k, 1)) (hs : g.stack = .double x :: rest) (hl : storeLocals g.locals k.val (.double x) = some l')
    (hr : Steps tb e below (T.setTop { g with pc := g.pc + 1, stack := rest, locals := l' }) target) : Steps tb e below (T.setTop g) target := by
  subst hg
  jvm_step h [h.top, hx, hd, hs, hl]
  exact hr
theorem g_dconst0 {tb : Tables} [Ours tb] {e : Env} {below : List Frame} {T target : State} {m : MethodId} {c : Code} {g : JFrame} (h : At T m c below) (hx : tb.exec = Jvm.exec) (hg : g.method = m) (hd : decode c.code g.pc = .ok (.dconst 0, 1))
    (hr : Steps tb e below (T.setTop { g with pc := g.pc + 1, stack := .double FP.dconst0 :: g.stack }) target) : Steps tb e below (T.setTop g) target := by
  subst hg
  jvm_step h [h.top, hx, hd]
  exact hr
theorem g_dconst1 {tb : Tables} [Ours tb] {e : Env} {below : List Frame} {T target : State} {m : MethodId} {c : Code} {g : JFrame} (h : At T m c below) (hx : tb.exec = Jvm.exec) (hg : g.method = m) (hd : decode c.code g.pc = .ok (.dconst 1, 1))
    (hr : Steps tb e below (T.setTop { g with pc := g.pc + 1, stack := .double FP.dconst1 :: g.stack }) target) : Steps tb e below (T.setTop g) target := by
  subst hg
  jvm_step h [h.top, hx, hd]
  exact hr
theorem g_i2d {tb : Tables} [Ours tb] {e : Env} {below : List Frame} {T target : State} {m : MethodId} {c : Code} {g : JFrame} (h : At T m c below) (hx : tb.exec = Jvm.exec) (hg : g.method = m) {x : Int32} {rest : List Value} (hd : decode c.code g.pc = .ok (.i2d, 1)) (hs : g.stack = .int x :: rest)
    (hr : Steps tb e below (T.setTop { g with pc := g.pc + 1, stack := .double (FP.i2d x) :: rest }) target) : Steps tb e below (T.setTop g) target := by
  subst hg
  jvm_step h [h.top, hx, hd, hs]
  exact hr
theorem g_ddiv {tb : Tables} [Ours tb] {e : Env} {below : List Frame} {T target : State} {m : MethodId} {c : Code} (h : At T m c below) (hx : tb.exec = Jvm.exec) {pc : Nat} {Ls : Array Slot} {x y : UInt64} {rest : List Value} (hd : decode c.code pc = .ok (.ddiv, 1)) (hn : NoNaN64 (FP.ddiv x y))
    (hr : Steps tb e below (T.setTop (mkF m (pc + 1) Ls (.double (FP.ddiv x y) :: rest))) target) : Steps tb e below (T.setTop (mkF m pc Ls (.double y :: .double x :: rest))) target := by
  jvm_step h [h.top, hx, hd, Op.ddiv.at_number h.top hn]
  exact hr
theorem g_dadd {tb : Tables} [Ours tb] {e : Env} {below : List Frame} {T target : State} {m : MethodId} {c : Code} (h : At T m c below) (hx : tb.exec = Jvm.exec) {pc : Nat} {Ls : Array Slot} {x y : UInt64} {rest : List Value} (hd : decode c.code pc = .ok (.dadd, 1)) (hn : NoNaN64 (FP.dadd x y))
    (hr : Steps tb e below (T.setTop (mkF m (pc + 1) Ls (.double (FP.dadd x y) :: rest))) target) : Steps tb e below (T.setTop (mkF m pc Ls (.double y :: .double x :: rest))) target := by
  jvm_step h [h.top, hx, hd, Op.dadd.at_number h.top hn]
  exact hr
theorem g_dcmpl {tb : Tables} [Ours tb] {e : Env} {below : List Frame} {T target : State} {m : MethodId} {c : Code} {g : JFrame} (h : At T m c below) (hx : tb.exec = Jvm.exec) (hg : g.method = m) {x y : UInt64} {rest : List Value} (hd : decode c.code g.pc = .ok (.dcmp .l, 1)) (hs : g.stack = .double y :: .double x :: rest)
    (hr : Steps tb e below (T.setTop { g with pc := g.pc + 1, stack := .int (cmpValue (FP.dcmp x y) .l) :: rest }) target) : Steps tb e below (T.setTop g) target := by
  subst hg
  jvm_step h [h.top, hx, hd, hs]
  exact hr
section Dbl
variable {k : Cx} {l : Launch} {Z : State} {n0 : Nat} {rm : Room} {bytes : ByteArray} {maxL : Nat} {y : MethodName} {ret : Option FieldType} {Q : Option Value → Heap → Prop} {h : Heap} {cells slots pc : Nat} {ls : List Slot} {st : List Value}
theorem WP.dload (K : Ok k l Z n0 rm bytes maxL y ret Q) {i : Nat} {v : UInt64} (pc' : Nat) (hd : decode bytes pc = .ok (.dload i, 2)) (hp : pc + 2 = pc') (hl : ls[i]? = some (.val (.double v))) (w : WP k h cells slots pc' ls (.double v :: st)) : WP k h cells slots pc ls st := by
  subst hp; exact w.plain fun T A t q => g_dload A K.hx rfl (K.dec hd) (arrGet hl) q
theorem WP.dloadN (K : Ok k l Z n0 rm bytes maxL y ret Q) {i : Fin 4} {v : UInt64} (pc' : Nat) (hd : decode bytes pc = .ok (.dload_n i, 1)) (hp : pc + 1 = pc') (hl : ls[i.val]? = some (.val (.double v))) (w : WP k h cells slots pc' ls (.double v :: st)) : WP k h cells slots pc ls st := by
  subst hp; exact w.plain fun T A t q => g_dloadN A K.hx rfl (K.dec hd) (arrGet hl) q
theorem WP.dstore (K : Ok k l Z n0 rm bytes maxL y ret Q) {i : Nat} {v : UInt64} (pc' : Nat) (ls' : List Slot) (hd : decode bytes pc = .ok (.dstore i, 2)) (hp : pc + 2 = pc') (hl : storeLocals ls.toArray i (.double v) = some ls'.toArray) (w : WP k h cells slots pc' ls' st) : WP k h cells slots pc ls (.double v :: st) := by
  subst hp; exact w.plain fun T A t q => g_dstore A K.hx rfl (K.dec hd) rfl hl q
theorem WP.dstoreN (K : Ok k l Z n0 rm bytes maxL y ret Q) {i : Fin 4} {v : UInt64} (pc' : Nat) (ls' : List Slot) (hd : decode bytes pc = .ok (.dstore_n i, 1)) (hp : pc + 1 = pc') (hl : storeLocals ls.toArray i.val (.double v) = some ls'.toArray) (w : WP k h cells slots pc' ls' st) : WP k h cells slots pc ls (.double v :: st) := by
  subst hp; exact w.plain fun T A t q => g_dstoreN A K.hx rfl (K.dec hd) rfl hl q
theorem WP.dconst0 (K : Ok k l Z n0 rm bytes maxL y ret Q) (pc' : Nat) (hd : decode bytes pc = .ok (.dconst 0, 1)) (hp : pc + 1 = pc') (w : WP k h cells slots pc' ls (.double FP.dconst0 :: st)) : WP k h cells slots pc ls st := by
  subst hp; exact w.plain fun T A t q => g_dconst0 A K.hx rfl (K.dec hd) q
theorem WP.dconst1 (K : Ok k l Z n0 rm bytes maxL y ret Q) (pc' : Nat) (hd : decode bytes pc = .ok (.dconst 1, 1)) (hp : pc + 1 = pc') (w : WP k h cells slots pc' ls (.double FP.dconst1 :: st)) : WP k h cells slots pc ls st := by
  subst hp; exact w.plain fun T A t q => g_dconst1 A K.hx rfl (K.dec hd) q
theorem WP.i2d (K : Ok k l Z n0 rm bytes maxL y ret Q) {x : Int32} (pc' : Nat) (hd : decode bytes pc = .ok (.i2d, 1)) (hp : pc + 1 = pc') (w : WP k h cells slots pc' ls (.double (FP.i2d x) :: st)) : WP k h cells slots pc ls (.int x :: st) := by
  subst hp; exact w.plain fun T A t q => g_i2d A K.hx rfl (K.dec hd) rfl q
theorem WP.ddiv (K : Ok k l Z n0 rm bytes maxL y ret Q) {x z : UInt64} (pc' : Nat) (hd : decode bytes pc = .ok (.ddiv, 1)) (hp : pc + 1 = pc') (hn : NoNaN64 (FP.ddiv x z)) (w : WP k h cells slots pc' ls (.double (FP.ddiv x z) :: st)) : WP k h cells slots pc ls (.double z :: .double x :: st) := by
  subst hp; exact w.plain fun T A t q => g_ddiv A K.hx (K.dec hd) hn q
theorem WP.dadd (K : Ok k l Z n0 rm bytes maxL y ret Q) {x z : UInt64} (pc' : Nat) (hd : decode bytes pc = .ok (.dadd, 1)) (hp : pc + 1 = pc') (hn : NoNaN64 (FP.dadd x z)) (w : WP k h cells slots pc' ls (.double (FP.dadd x z) :: st)) : WP k h cells slots pc ls (.double z :: .double x :: st) := by
  subst hp; exact w.plain fun T A t q => g_dadd A K.hx (K.dec hd) hn q
theorem WP.dcmpl (K : Ok k l Z n0 rm bytes maxL y ret Q) {x z : UInt64} (pc' : Nat) (hd : decode bytes pc = .ok (.dcmp .l, 1)) (hp : pc + 1 = pc') (w : WP k h cells slots pc' ls (.int (cmpValue (FP.dcmp x z) .l) :: st)) : WP k h cells slots pc ls (.double z :: .double x :: st) := by
  subst hp; exact w.plain fun T A t q => g_dcmpl A K.hx rfl (K.dec hd) rfl q
theorem WP.dret (K : Ok k l Z n0 rm bytes maxL y ret Q) {z : UInt64} (hr : ret = some .double) (hd : decode bytes pc = .ok (.dreturn, 1)) (hq : Q (some (.double z)) h) (hc : cells ≤ rm.cells) (hs : slots ≤ rm.slots) : WP k h cells slots pc ls (.double z :: st) :=
  WP.leave K (some (.double z)) (fun q => by rw [K.hret, hr] at q; cases q) hq hc hs fun T locs X fs hl => RoadKit.retOut X K.hx (K.hret.trans hr) rfl (Or.inr (Or.inr (Or.inl ⟨rfl, rfl, z, rfl⟩))) (K.dec hd) hl
theorem WP.ldc2D (K : Ok k l Z n0 rm bytes maxL y ret Q) {a0 : Array Value} {i : Nat} {v : UInt64} (pc' : Nat) (hw : (Jvm.Cond.constantDouble y.cls i v).before a0 Z = true) (hd : decode bytes pc = .ok (.ldc2_w i, 3)) (hp : pc + 3 = pc') (w : WP k h cells slots pc' ls (.double v :: st)) : WP k h cells slots pc ls st := by
  subst hp; exact fun T locs X e N => End.back (fun t q => Stand.ldc2DoubleC X K.hx K.hown (mvT K.hZ hw) (g := mkF k.m pc ls.toArray st) rfl (K.dec hd) t q) (w T locs X e N)
end Dbl
end Jvm.OwnWP

namespace Jvm.Pilot.@@N@@
open Jvm Jvm.ClassFile Sem Op Lib Jvm.Free Jvm.Stand Jvm.LawKit Jvm.RoadKit Bundle Jvm.OwnWP Jvm.Free.Fl Jvm.Pilot.@@N@@.Jvm.D
def own_sb : List Bool → Int32 → Int32 → UInt64 → UInt64
  | [], _, _, acc => acc
  | b :: bs, i, n, acc => if b then own_sb bs (i + 1) (n + 1) (FP.dadd acc (FP.ddiv (FP.i2d (n + 1)) (FP.i2d i))) else own_sb bs (i + 1) n acc
def own_bs (xs : List Int32) : List Bool := xs.map fun x => decide (0 < x.toInt)
theorem own_q (n i : Int32) (h1 : 1 ≤ n.toInt) (h2 : n.toInt ≤ i.toInt) (h3 : i.toInt ≤ 4) : Fin64 (FP.ddiv (FP.i2d n) (FP.i2d i)) := by
  have hn : n.toInt = 1 ∨ n.toInt = 2 ∨ n.toInt = 3 ∨ n.toInt = 4 := by omega
  have hi : i.toInt = 1 ∨ i.toInt = 2 ∨ i.toInt = 3 ∨ i.toInt = 4 := by omega
  have en : n = 1 ∨ n = 2 ∨ n = 3 ∨ n = 4 := by
    rcases hn with e | e | e | e
    · exact Or.inl (i32_eq e)
    · exact Or.inr (Or.inl (i32_eq e))
    · exact Or.inr (Or.inr (Or.inl (i32_eq e)))
    · exact Or.inr (Or.inr (Or.inr (i32_eq e)))
  have ei : i = 1 ∨ i = 2 ∨ i = 3 ∨ i = 4 := by
    rcases hi with e | e | e | e
    · exact Or.inl (i32_eq e)
    · exact Or.inr (Or.inl (i32_eq e))
    · exact Or.inr (Or.inr (Or.inl (i32_eq e)))
    · exact Or.inr (Or.inr (Or.inr (i32_eq e)))
  rcases en with rfl | rfl | rfl | rfl <;> rcases ei with rfl | rfl | rfl | rfl <;> (unfold Fin64; decide +kernel)
theorem own_rd (r : Int32) (h1 : 1 ≤ r.toInt) (h2 : r.toInt ≤ 5) : Fin64 (FP.i2d r) ∧ Nz64 (FP.i2d r) := by
  have hr : r.toInt = 1 ∨ r.toInt = 2 ∨ r.toInt = 3 ∨ r.toInt = 4 ∨ r.toInt = 5 := by omega
  refine ⟨i2d_fin r, ?_⟩
  rcases hr with e | e | e | e | e
  · obtain rfl : r = 1 := i32_eq e
    unfold Nz64; decide +kernel
  · obtain rfl : r = 2 := i32_eq e
    unfold Nz64; decide +kernel
  · obtain rfl : r = 3 := i32_eq e
    unfold Nz64; decide +kernel
  · obtain rfl : r = 4 := i32_eq e
    unfold Nz64; decide +kernel
  · obtain rfl : r = 5 := i32_eq e
    unfold Nz64; decide +kernel
theorem own_drop {xs : List Int32} {n : Nat} {v : Int32} (h : xs[n]? = some v) : xs.drop n = v :: xs.drop (n + 1) := by
  obtain ⟨h1, h2⟩ := List.getElem?_eq_some_iff.mp h
  rw [List.drop_eq_getElem_cons h1, h2]
theorem own_take (g1 g2 g3 g4 : Int32) (n : Nat) (hn : n ≤ 4) : own_sb (own_bs ([g1, g2, g3, g4].take n)) 1 0 FP.dconst0 = own_sb [decide (1 ≤ n ∧ 0 < g1.toInt), decide (2 ≤ n ∧ 0 < g2.toInt), decide (3 ≤ n ∧ 0 < g3.toInt), decide (4 ≤ n ∧ 0 < g4.toInt)] 1 0 FP.dconst0 := by
  have : n = 0 ∨ n = 1 ∨ n = 2 ∨ n = 3 ∨ n = 4 := by omega
  rcases this with rfl | rfl | rfl | rfl | rfl <;> simp [own_bs, own_sb]
theorem own_b4_0 : decode jdk_30_method_1_code 0 = .ok (.aload_n 0, 1) := by decide +kernel
theorem own_b4_1 : decode jdk_30_method_1_code 1 = .ok (.invokespecial 1, 3) := by decide +kernel
theorem own_b4_4 : decode jdk_30_method_1_code 4 = .ok (.return_, 1) := by decide +kernel
theorem own_pf_b4 : plainFor (⟨"java/lang/Record", "<init>", "()V"⟩ : MethodName) = true := by first | exact plainFor_of_name (by first | (simp [plainName, overriddenIn, x]; done) | decide +kernel) | decide +kernel
set_option maxRecDepth 65536 in
set_option maxHeartbeats 40000000 in
theorem own_recinit (l : Launch) (Z : State) (a0 : Array Value) (hw : ∀ d ∈ tables_1, d.before a0 Z = true) (n0 : Nat) (h : Heap) (o : Nat) :
    Con l Z (⟨"java/lang/Record", "<init>", "()V"⟩ : MethodName) jdk_30_method_1_code 1 none ({ frames := 1, cells := 0, slots := 0, locals := 12 } : Room) n0 #[(.ref o)] h (R0 fun h' => h = h') := by
  refine Con.of (ls := [.val (.ref o)]) own_pf_b4 (fun m => by first | (simp [entryFrame, mkF, argsToLocals, Value.category]; done) | rfl) fun k K => ?_
  refine WP.aloadN K 1 own_b4_0 rfl rfl rfl ?_
  refine WP.initO K 4 0 (hw _ (List.mem_of_getElem? (i := 19) rfl)) (hw _ (List.mem_of_getElem? (i := 20) rfl)) (hw _ (List.mem_of_getElem? (i := 21) rfl)) own_b4_1 rfl rfl (by decide) (Nat.le_of_eq rfl) (by decide) ?_
  refine WP.retV K rfl own_b4_4 ?_ (by decide) (by decide)
  exact ⟨rfl, rfl⟩
theorem own_b3_0 : decode prog_11_method_1_code 0 = .ok (.aload_n 0, 1) := by decide +kernel
theorem own_b3_1 : decode prog_11_method_1_code 1 = .ok (.invokespecial 1, 3) := by decide +kernel
theorem own_b3_4 : decode prog_11_method_1_code 4 = .ok (.aload_n 0, 1) := by decide +kernel
theorem own_b3_5 : decode prog_11_method_1_code 5 = .ok (.aload_n 1, 1) := by decide +kernel
theorem own_b3_6 : decode prog_11_method_1_code 6 = .ok (.putfield 7, 3) := by decide +kernel
theorem own_b3_9 : decode prog_11_method_1_code 9 = .ok (.aload_n 0, 1) := by decide +kernel
theorem own_b3_10 : decode prog_11_method_1_code 10 = .ok (.aload_n 2, 1) := by decide +kernel
theorem own_b3_11 : decode prog_11_method_1_code 11 = .ok (.putfield 13, 3) := by decide +kernel
theorem own_b3_14 : decode prog_11_method_1_code 14 = .ok (.return_, 1) := by decide +kernel
theorem own_pf_b3 : plainFor (⟨"com/example/sorgu/sorgu/eval/JudgedRanking", "<init>", "([I[I)V"⟩ : MethodName) = true := by first | exact plainFor_of_name (by first | (simp [plainName, overriddenIn, x]; done) | decide +kernel) | decide +kernel
theorem own_pd_0 : parseMethodDescriptor "()V" = some ⟨[], none⟩ := by decide +kernel
set_option maxRecDepth 65536 in
set_option maxHeartbeats 40000000 in
theorem own_init (l : Launch) (Z : State) (a0 : Array Value) (hw : ∀ d ∈ tables_1, d.before a0 Z = true) (n0 : Nat) (h : Heap) (o g d : Nat) (Ex : Exa Z h o "com/example/sorgu/sorgu/eval/JudgedRanking") (v1 v2 : Value) (Fg : Fld Z h o "com/example/sorgu/sorgu/eval/JudgedRanking" "gains" "[I" v1) (Fd : Fld Z h o "com/example/sorgu/sorgu/eval/JudgedRanking" "idealGains" "[I" v2) (n0_o : n0 ≤ o) :
    Con l Z (⟨"com/example/sorgu/sorgu/eval/JudgedRanking", "<init>", "([I[I)V"⟩ : MethodName) prog_11_method_1_code 3 none ({ frames := 2, cells := 0, slots := 0, locals := 24 } : Room) n0 #[(.ref o), (.ref g), (.ref d)] h (R0 fun h' => Keep h h' [o] ∧ Fld Z h' o "com/example/sorgu/sorgu/eval/JudgedRanking" "gains" "[I" (.ref g) ∧ Fld Z h' o "com/example/sorgu/sorgu/eval/JudgedRanking" "idealGains" "[I" (.ref d)) := by
  refine Con.of (ls := [.val (.ref o), .val (.ref g), .val (.ref d)]) own_pf_b3 (fun m => by first | (simp [entryFrame, mkF, argsToLocals, Value.category]; done) | rfl) fun k K => ?_
  have Kp := Keep.refl h [o]
  refine WP.aloadN K 1 own_b3_0 rfl rfl rfl ?_
  refine WP.callI K (a := o) 4 0 0 0 [] [] (hw _ (List.mem_of_getElem? (i := 14) rfl)) (hw _ (List.mem_of_getElem? (i := 15) rfl)) (hw _ (List.mem_of_getElem? (i := 17) rfl)) (hw _ (List.mem_of_getElem? (i := 18) rfl)) rfl (by decide) own_pd_0 rfl rfl rfl (by decide) (by decide) (Nat.le_of_eq rfl) rfl own_b3_1 rfl rfl rfl (by decide) (by decide) (own_recinit l Z a0 hw n0 h o) (r0_next fun h1 q2 => ?_)
  obtain rfl := q2
  refine WP.aloadN K 5 own_b3_4 rfl rfl rfl ?_
  refine WP.aloadN K 6 own_b3_5 rfl rfl rfl ?_
  refine WP.putfield K (host := "") (a := o) 9 (Or.inl (hw _ (List.mem_of_getElem? (i := 22) rfl))) Via.refl Fg Ex (Or.inr ⟨(hw _ (List.mem_of_getElem? (i := 23) rfl)), rfl, rfl⟩) (hw _ (List.mem_of_getElem? (i := 9) rfl)) (ty := (.array .int)) (by decide) rfl rfl own_b3_6 rfl n0_o (fun h4 W5 => ?_)
  have Ex := Ex.wr W5
  have Fg := Fg.same W5
  have Fd := Fd.other W5 (Or.inr (slot_ne (Or.inr (hw _ (List.mem_of_getElem? (i := 25) rfl))) (Or.inr (hw _ (List.mem_of_getElem? (i := 23) rfl))) (by decide) (t := (.array .int)) (t' := (.array .int)) (by decide) (by decide)))
  have Kp := Kp.wr W5 (by first | (refine Or.inl ?_; simp; done) | (refine Or.inr ?_; omega))
  refine WP.aloadN K 10 own_b3_9 rfl rfl rfl ?_
  refine WP.aloadN K 11 own_b3_10 rfl rfl rfl ?_
  refine WP.putfield K (host := "") (a := o) 14 (Or.inl (hw _ (List.mem_of_getElem? (i := 24) rfl))) Via.refl Fd Ex (Or.inr ⟨(hw _ (List.mem_of_getElem? (i := 25) rfl)), rfl, rfl⟩) (hw _ (List.mem_of_getElem? (i := 9) rfl)) (ty := (.array .int)) (by decide) rfl rfl own_b3_11 rfl n0_o (fun h6 W7 => ?_)
  have Ex := Ex.wr W7
  have Fg := Fg.other W7 (Or.inr (slot_ne (Or.inr (hw _ (List.mem_of_getElem? (i := 23) rfl))) (Or.inr (hw _ (List.mem_of_getElem? (i := 25) rfl))) (by decide) (t := (.array .int)) (t' := (.array .int)) (by decide) (by decide)))
  have Fd := Fd.same W7
  have Kp := Kp.wr W7 (by first | (refine Or.inl ?_; simp; done) | (refine Or.inr ?_; omega))
  refine WP.retV K rfl own_b3_14 ?_ (by decide) (by decide)
  exact ⟨rfl, Kp, Fg, Fd⟩
theorem own_b1_0 : decode method_3_code 0 = .ok (.iload_n 0, 1) := by decide +kernel
theorem own_b1_1 : decode method_3_code 1 = .ok (.ifCond .ne 7, 3) := by decide +kernel
theorem own_b1_4 : decode method_3_code 4 = .ok (.iconst 0, 1) := by decide +kernel
theorem own_b1_5 : decode method_3_code 5 = .ok (.newarray .int, 2) := by decide +kernel
theorem own_b1_7 : decode method_3_code 7 = .ok (.areturn, 1) := by decide +kernel
theorem own_b1_8 : decode method_3_code 8 = .ok (.iload_n 0, 1) := by decide +kernel
theorem own_b1_9 : decode method_3_code 9 = .ok (.iconst 1, 1) := by decide +kernel
theorem own_b1_10 : decode method_3_code 10 = .ok (.if_icmp .ne 11, 3) := by decide +kernel
theorem own_b1_13 : decode method_3_code 13 = .ok (.iconst 1, 1) := by decide +kernel
theorem own_b1_14 : decode method_3_code 14 = .ok (.newarray .int, 2) := by decide +kernel
theorem own_b1_16 : decode method_3_code 16 = .ok (.dup, 1) := by decide +kernel
theorem own_b1_17 : decode method_3_code 17 = .ok (.iconst 0, 1) := by decide +kernel
theorem own_b1_18 : decode method_3_code 18 = .ok (.iload_n 1, 1) := by decide +kernel
theorem own_b1_19 : decode method_3_code 19 = .ok (.iastore, 1) := by decide +kernel
theorem own_b1_20 : decode method_3_code 20 = .ok (.areturn, 1) := by decide +kernel
theorem own_b1_21 : decode method_3_code 21 = .ok (.iload_n 0, 1) := by decide +kernel
theorem own_b1_22 : decode method_3_code 22 = .ok (.iconst 2, 1) := by decide +kernel
theorem own_b1_23 : decode method_3_code 23 = .ok (.if_icmp .ne 15, 3) := by decide +kernel
theorem own_b1_26 : decode method_3_code 26 = .ok (.iconst 2, 1) := by decide +kernel
theorem own_b1_27 : decode method_3_code 27 = .ok (.newarray .int, 2) := by decide +kernel
theorem own_b1_29 : decode method_3_code 29 = .ok (.dup, 1) := by decide +kernel
theorem own_b1_30 : decode method_3_code 30 = .ok (.iconst 0, 1) := by decide +kernel
theorem own_b1_31 : decode method_3_code 31 = .ok (.iload_n 1, 1) := by decide +kernel
theorem own_b1_32 : decode method_3_code 32 = .ok (.iastore, 1) := by decide +kernel
theorem own_b1_33 : decode method_3_code 33 = .ok (.dup, 1) := by decide +kernel
theorem own_b1_34 : decode method_3_code 34 = .ok (.iconst 1, 1) := by decide +kernel
theorem own_b1_35 : decode method_3_code 35 = .ok (.iload_n 2, 1) := by decide +kernel
theorem own_b1_36 : decode method_3_code 36 = .ok (.iastore, 1) := by decide +kernel
theorem own_b1_37 : decode method_3_code 37 = .ok (.areturn, 1) := by decide +kernel
theorem own_b1_38 : decode method_3_code 38 = .ok (.iload_n 0, 1) := by decide +kernel
theorem own_b1_39 : decode method_3_code 39 = .ok (.iconst 3, 1) := by decide +kernel
theorem own_b1_40 : decode method_3_code 40 = .ok (.if_icmp .ne 19, 3) := by decide +kernel
theorem own_b1_43 : decode method_3_code 43 = .ok (.iconst 3, 1) := by decide +kernel
theorem own_b1_44 : decode method_3_code 44 = .ok (.newarray .int, 2) := by decide +kernel
theorem own_b1_46 : decode method_3_code 46 = .ok (.dup, 1) := by decide +kernel
theorem own_b1_47 : decode method_3_code 47 = .ok (.iconst 0, 1) := by decide +kernel
theorem own_b1_48 : decode method_3_code 48 = .ok (.iload_n 1, 1) := by decide +kernel
theorem own_b1_49 : decode method_3_code 49 = .ok (.iastore, 1) := by decide +kernel
theorem own_b1_50 : decode method_3_code 50 = .ok (.dup, 1) := by decide +kernel
theorem own_b1_51 : decode method_3_code 51 = .ok (.iconst 1, 1) := by decide +kernel
theorem own_b1_52 : decode method_3_code 52 = .ok (.iload_n 2, 1) := by decide +kernel
theorem own_b1_53 : decode method_3_code 53 = .ok (.iastore, 1) := by decide +kernel
theorem own_b1_54 : decode method_3_code 54 = .ok (.dup, 1) := by decide +kernel
theorem own_b1_55 : decode method_3_code 55 = .ok (.iconst 2, 1) := by decide +kernel
theorem own_b1_56 : decode method_3_code 56 = .ok (.iload_n 3, 1) := by decide +kernel
theorem own_b1_57 : decode method_3_code 57 = .ok (.iastore, 1) := by decide +kernel
theorem own_b1_58 : decode method_3_code 58 = .ok (.areturn, 1) := by decide +kernel
theorem own_b1_59 : decode method_3_code 59 = .ok (.iconst 4, 1) := by decide +kernel
theorem own_b1_60 : decode method_3_code 60 = .ok (.newarray .int, 2) := by decide +kernel
theorem own_b1_62 : decode method_3_code 62 = .ok (.dup, 1) := by decide +kernel
theorem own_b1_63 : decode method_3_code 63 = .ok (.iconst 0, 1) := by decide +kernel
theorem own_b1_64 : decode method_3_code 64 = .ok (.iload_n 1, 1) := by decide +kernel
theorem own_b1_65 : decode method_3_code 65 = .ok (.iastore, 1) := by decide +kernel
theorem own_b1_66 : decode method_3_code 66 = .ok (.dup, 1) := by decide +kernel
theorem own_b1_67 : decode method_3_code 67 = .ok (.iconst 1, 1) := by decide +kernel
theorem own_b1_68 : decode method_3_code 68 = .ok (.iload_n 2, 1) := by decide +kernel
theorem own_b1_69 : decode method_3_code 69 = .ok (.iastore, 1) := by decide +kernel
theorem own_b1_70 : decode method_3_code 70 = .ok (.dup, 1) := by decide +kernel
theorem own_b1_71 : decode method_3_code 71 = .ok (.iconst 2, 1) := by decide +kernel
theorem own_b1_72 : decode method_3_code 72 = .ok (.iload_n 3, 1) := by decide +kernel
theorem own_b1_73 : decode method_3_code 73 = .ok (.iastore, 1) := by decide +kernel
theorem own_b1_74 : decode method_3_code 74 = .ok (.dup, 1) := by decide +kernel
theorem own_b1_75 : decode method_3_code 75 = .ok (.iconst 3, 1) := by decide +kernel
theorem own_b1_76 : decode method_3_code 76 = .ok (.iload 4, 2) := by decide +kernel
theorem own_b1_78 : decode method_3_code 78 = .ok (.iastore, 1) := by decide +kernel
theorem own_b1_79 : decode method_3_code 79 = .ok (.areturn, 1) := by decide +kernel
theorem own_pf_b1 : plainFor (⟨"com/example/sorgu/sorgu/eval/JudgedRankingAveragePrecisionPinLaw", "gainsOf", "(IIIII)[I"⟩ : MethodName) = true := by first | exact plainFor_of_name (by first | (simp [plainName, overriddenIn, x]; done) | decide +kernel) | decide +kernel
set_option maxRecDepth 65536 in
set_option maxHeartbeats 40000000 in
theorem own_gains (l : Launch) (Z : State) (a0 : Array Value) (hw : ∀ d ∈ tables_1, d.before a0 Z = true) (n0 : Nat) (h : Heap) (nn g1 g2 g3 g4 : Int32) (n : Nat) (hn : nn.toInt = (n : Nat)) (hn4 : n ≤ 4) (Z0 : n0 ≤ h.size) :
    Con l Z (⟨"com/example/sorgu/sorgu/eval/JudgedRankingAveragePrecisionPinLaw", "gainsOf", "(IIIII)[I"⟩ : MethodName) method_3_code 5 (some (.array .int)) ({ frames := 0, cells := 1, slots := 4, locals := 0 } : Room) n0 #[(.int nn), (.int g1), (.int g2), (.int g3), (.int g4)] h (R1 fun r h' => Keep h h' [] ∧ ∃ a : Nat, r = .ref a ∧ n0 ≤ a ∧ h.size ≤ a ∧ ArI Z h' a ([g1, g2, g3, g4].take n)) := by
  refine Con.of (ls := [.val (.int nn), .val (.int g1), .val (.int g2), .val (.int g3), .val (.int g4)]) own_pf_b1 (fun m => by first | (simp [entryFrame, mkF, argsToLocals, Value.category]; done) | rfl) fun k K => ?_
  have k_0 : (0 : Int32).toInt = 0 := rfl
  have k_1 : (1 : Int32).toInt = 1 := rfl
  have k_2 : (2 : Int32).toInt = 2 := rfl
  have k_3 : (3 : Int32).toInt = 3 := rfl
  have k_4 : (4 : Int32).toInt = 4 := rfl
  have Kp := Keep.refl h []
  obtain rfl | rfl | rfl | rfl | rfl : n = 0 ∨ n = 1 ∨ n = 2 ∨ n = 3 ∨ n = 4 := by omega
  · skip
    obtain rfl : nn = (0 : Int32) := i32_eq hn
    refine WP.iloadN K 1 own_b1_0 rfl rfl ?_
    refine WP.if_ne K 8 4 own_b1_1 (by decide) rfl (fun c1 => ?_) (fun c1 => ?_)
    · skip
      exact absurd c1 (by decide)
    · skip
      refine WP.iconst K (0 : Int32) 5 own_b1_4 rfl rfl ?_
      refine WP.newarray K 7 0 0 1 0 (hw _ (List.mem_of_getElem? (i := 4) rfl)) own_b1_5 rfl rfl (Nat.le_refl _) (by decide) rfl rfl (by decide) (by decide) (fun h1 t z_t E2 V3 => ?_)
      have n0_t : @LE.le Nat _ n0 t := z_t ▸ Z0
      have Z0 : n0 ≤ (h1).size := Nat.le_trans Z0 E2.1
      have Kp := Kp.ext E2
      have A_t := ArI.of_new V3
      have A_t : ArI Z h1 t [] := A_t
      refine WP.aret K rfl rfl rfl rfl own_b1_7 ?_ (by decide) (by decide)
      exact ⟨_, rfl, Kp, t, rfl, n0_t, Nat.le_of_eq z_t.symm, A_t⟩
  · skip
    obtain rfl : nn = (1 : Int32) := i32_eq hn
    refine WP.iloadN K 1 own_b1_0 rfl rfl ?_
    refine WP.if_ne K 8 4 own_b1_1 (by decide) rfl (fun c1 => ?_) (fun c1 => ?_)
    · skip
      refine WP.iloadN K 9 own_b1_8 rfl rfl ?_
      refine WP.iconst K (1 : Int32) 10 own_b1_9 rfl rfl ?_
      refine WP.icmp_ne K 21 13 own_b1_10 (by decide) rfl (fun c10 => ?_) (fun c10 => ?_)
      · skip
        exact absurd c10 (by decide)
      · skip
        refine WP.iconst K (1 : Int32) 14 own_b1_13 rfl rfl ?_
        refine WP.newarray K 16 1 1 1 1 (hw _ (List.mem_of_getElem? (i := 4) rfl)) own_b1_14 rfl rfl (Nat.le_refl _) (by decide) rfl rfl (by decide) (by decide) (fun h4 t z_t E5 V6 => ?_)
        have n0_t : @LE.le Nat _ n0 t := z_t ▸ Z0
        have Z0 : n0 ≤ (h4).size := Nat.le_trans Z0 E5.1
        have Kp := Kp.ext E5
        have A_t := ArI.of_new V6
        have A_t : ArI Z h4 t [(0 : Int32)] := A_t
        refine WP.dup K 17 own_b1_16 rfl rfl ?_
        refine WP.iconst K (0 : Int32) 18 own_b1_17 rfl rfl ?_
        refine WP.iloadN K 19 own_b1_18 rfl rfl ?_
        refine WP.iastore K 20 0 A_t rfl (by simp) own_b1_19 rfl n0_t (fun h7 K8 A_t => ?_)
        have Z0 : n0 ≤ (h7).size := Nat.le_trans Z0 K8.1
        have Kp := Kp.trans K8 (ks1 (by first | (refine Or.inl ?_; simp; done) | (refine Or.inr ?_; omega)))
        have A_t : ArI Z h7 t [g1] := A_t
        refine WP.aret K rfl rfl rfl rfl own_b1_20 ?_ (by decide) (by decide)
        exact ⟨_, rfl, Kp, t, rfl, n0_t, Nat.le_of_eq z_t.symm, A_t⟩
    · skip
      exact absurd c1 (by decide)
  · skip
    obtain rfl : nn = (2 : Int32) := i32_eq hn
    refine WP.iloadN K 1 own_b1_0 rfl rfl ?_
    refine WP.if_ne K 8 4 own_b1_1 (by decide) rfl (fun c1 => ?_) (fun c1 => ?_)
    · skip
      refine WP.iloadN K 9 own_b1_8 rfl rfl ?_
      refine WP.iconst K (1 : Int32) 10 own_b1_9 rfl rfl ?_
      refine WP.icmp_ne K 21 13 own_b1_10 (by decide) rfl (fun c10 => ?_) (fun c10 => ?_)
      · skip
        refine WP.iloadN K 22 own_b1_21 rfl rfl ?_
        refine WP.iconst K (2 : Int32) 23 own_b1_22 rfl rfl ?_
        refine WP.icmp_ne K 38 26 own_b1_23 (by decide) rfl (fun c23 => ?_) (fun c23 => ?_)
        · skip
          exact absurd c23 (by decide)
        · skip
          refine WP.iconst K (2 : Int32) 27 own_b1_26 rfl rfl ?_
          refine WP.newarray K 29 2 2 1 2 (hw _ (List.mem_of_getElem? (i := 4) rfl)) own_b1_27 rfl rfl (Nat.le_refl _) (by decide) rfl rfl (by decide) (by decide) (fun h9 t z_t E10 V11 => ?_)
          have n0_t : @LE.le Nat _ n0 t := z_t ▸ Z0
          have Z0 : n0 ≤ (h9).size := Nat.le_trans Z0 E10.1
          have Kp := Kp.ext E10
          have A_t := ArI.of_new V11
          have A_t : ArI Z h9 t [(0 : Int32), (0 : Int32)] := A_t
          refine WP.dup K 30 own_b1_29 rfl rfl ?_
          refine WP.iconst K (0 : Int32) 31 own_b1_30 rfl rfl ?_
          refine WP.iloadN K 32 own_b1_31 rfl rfl ?_
          refine WP.iastore K 33 0 A_t rfl (by simp) own_b1_32 rfl n0_t (fun h12 K13 A_t => ?_)
          have Z0 : n0 ≤ (h12).size := Nat.le_trans Z0 K13.1
          have Kp := Kp.trans K13 (ks1 (by first | (refine Or.inl ?_; simp; done) | (refine Or.inr ?_; omega)))
          have A_t : ArI Z h12 t [g1, (0 : Int32)] := A_t
          refine WP.dup K 34 own_b1_33 rfl rfl ?_
          refine WP.iconst K (1 : Int32) 35 own_b1_34 rfl rfl ?_
          refine WP.iloadN K 36 own_b1_35 rfl rfl ?_
          refine WP.iastore K 37 1 A_t rfl (by simp) own_b1_36 rfl n0_t (fun h14 K15 A_t => ?_)
          have Z0 : n0 ≤ (h14).size := Nat.le_trans Z0 K15.1
          have Kp := Kp.trans K15 (ks1 (by first | (refine Or.inl ?_; simp; done) | (refine Or.inr ?_; omega)))
          have A_t : ArI Z h14 t [g1, g2] := A_t
          refine WP.aret K rfl rfl rfl rfl own_b1_37 ?_ (by decide) (by decide)
          exact ⟨_, rfl, Kp, t, rfl, n0_t, Nat.le_of_eq z_t.symm, A_t⟩
      · skip
        exact absurd c10 (by decide)
    · skip
      exact absurd c1 (by decide)
  · skip
    obtain rfl : nn = (3 : Int32) := i32_eq hn
    refine WP.iloadN K 1 own_b1_0 rfl rfl ?_
    refine WP.if_ne K 8 4 own_b1_1 (by decide) rfl (fun c1 => ?_) (fun c1 => ?_)
    · skip
      refine WP.iloadN K 9 own_b1_8 rfl rfl ?_
      refine WP.iconst K (1 : Int32) 10 own_b1_9 rfl rfl ?_
      refine WP.icmp_ne K 21 13 own_b1_10 (by decide) rfl (fun c10 => ?_) (fun c10 => ?_)
      · skip
        refine WP.iloadN K 22 own_b1_21 rfl rfl ?_
        refine WP.iconst K (2 : Int32) 23 own_b1_22 rfl rfl ?_
        refine WP.icmp_ne K 38 26 own_b1_23 (by decide) rfl (fun c23 => ?_) (fun c23 => ?_)
        · skip
          refine WP.iloadN K 39 own_b1_38 rfl rfl ?_
          refine WP.iconst K (3 : Int32) 40 own_b1_39 rfl rfl ?_
          refine WP.icmp_ne K 59 43 own_b1_40 (by decide) rfl (fun c40 => ?_) (fun c40 => ?_)
          · skip
            exact absurd c40 (by decide)
          · skip
            refine WP.iconst K (3 : Int32) 44 own_b1_43 rfl rfl ?_
            refine WP.newarray K 46 3 3 1 3 (hw _ (List.mem_of_getElem? (i := 4) rfl)) own_b1_44 rfl rfl (Nat.le_refl _) (by decide) rfl rfl (by decide) (by decide) (fun h16 t z_t E17 V18 => ?_)
            have n0_t : @LE.le Nat _ n0 t := z_t ▸ Z0
            have Z0 : n0 ≤ (h16).size := Nat.le_trans Z0 E17.1
            have Kp := Kp.ext E17
            have A_t := ArI.of_new V18
            have A_t : ArI Z h16 t [(0 : Int32), (0 : Int32), (0 : Int32)] := A_t
            refine WP.dup K 47 own_b1_46 rfl rfl ?_
            refine WP.iconst K (0 : Int32) 48 own_b1_47 rfl rfl ?_
            refine WP.iloadN K 49 own_b1_48 rfl rfl ?_
            refine WP.iastore K 50 0 A_t rfl (by simp) own_b1_49 rfl n0_t (fun h19 K20 A_t => ?_)
            have Z0 : n0 ≤ (h19).size := Nat.le_trans Z0 K20.1
            have Kp := Kp.trans K20 (ks1 (by first | (refine Or.inl ?_; simp; done) | (refine Or.inr ?_; omega)))
            have A_t : ArI Z h19 t [g1, (0 : Int32), (0 : Int32)] := A_t
            refine WP.dup K 51 own_b1_50 rfl rfl ?_
            refine WP.iconst K (1 : Int32) 52 own_b1_51 rfl rfl ?_
            refine WP.iloadN K 53 own_b1_52 rfl rfl ?_
            refine WP.iastore K 54 1 A_t rfl (by simp) own_b1_53 rfl n0_t (fun h21 K22 A_t => ?_)
            have Z0 : n0 ≤ (h21).size := Nat.le_trans Z0 K22.1
            have Kp := Kp.trans K22 (ks1 (by first | (refine Or.inl ?_; simp; done) | (refine Or.inr ?_; omega)))
            have A_t : ArI Z h21 t [g1, g2, (0 : Int32)] := A_t
            refine WP.dup K 55 own_b1_54 rfl rfl ?_
            refine WP.iconst K (2 : Int32) 56 own_b1_55 rfl rfl ?_
            refine WP.iloadN K 57 own_b1_56 rfl rfl ?_
            refine WP.iastore K 58 2 A_t rfl (by simp) own_b1_57 rfl n0_t (fun h23 K24 A_t => ?_)
            have Z0 : n0 ≤ (h23).size := Nat.le_trans Z0 K24.1
            have Kp := Kp.trans K24 (ks1 (by first | (refine Or.inl ?_; simp; done) | (refine Or.inr ?_; omega)))
            have A_t : ArI Z h23 t [g1, g2, g3] := A_t
            refine WP.aret K rfl rfl rfl rfl own_b1_58 ?_ (by decide) (by decide)
            exact ⟨_, rfl, Kp, t, rfl, n0_t, Nat.le_of_eq z_t.symm, A_t⟩
        · skip
          exact absurd c23 (by decide)
      · skip
        exact absurd c10 (by decide)
    · skip
      exact absurd c1 (by decide)
  · skip
    obtain rfl : nn = (4 : Int32) := i32_eq hn
    refine WP.iloadN K 1 own_b1_0 rfl rfl ?_
    refine WP.if_ne K 8 4 own_b1_1 (by decide) rfl (fun c1 => ?_) (fun c1 => ?_)
    · skip
      refine WP.iloadN K 9 own_b1_8 rfl rfl ?_
      refine WP.iconst K (1 : Int32) 10 own_b1_9 rfl rfl ?_
      refine WP.icmp_ne K 21 13 own_b1_10 (by decide) rfl (fun c10 => ?_) (fun c10 => ?_)
      · skip
        refine WP.iloadN K 22 own_b1_21 rfl rfl ?_
        refine WP.iconst K (2 : Int32) 23 own_b1_22 rfl rfl ?_
        refine WP.icmp_ne K 38 26 own_b1_23 (by decide) rfl (fun c23 => ?_) (fun c23 => ?_)
        · skip
          refine WP.iloadN K 39 own_b1_38 rfl rfl ?_
          refine WP.iconst K (3 : Int32) 40 own_b1_39 rfl rfl ?_
          refine WP.icmp_ne K 59 43 own_b1_40 (by decide) rfl (fun c40 => ?_) (fun c40 => ?_)
          · skip
            refine WP.iconst K (4 : Int32) 60 own_b1_59 rfl rfl ?_
            refine WP.newarray K 62 4 4 1 4 (hw _ (List.mem_of_getElem? (i := 4) rfl)) own_b1_60 rfl rfl (Nat.le_refl _) (by decide) rfl rfl (by decide) (by decide) (fun h25 t z_t E26 V27 => ?_)
            have n0_t : @LE.le Nat _ n0 t := z_t ▸ Z0
            have Z0 : n0 ≤ (h25).size := Nat.le_trans Z0 E26.1
            have Kp := Kp.ext E26
            have A_t := ArI.of_new V27
            have A_t : ArI Z h25 t [(0 : Int32), (0 : Int32), (0 : Int32), (0 : Int32)] := A_t
            refine WP.dup K 63 own_b1_62 rfl rfl ?_
            refine WP.iconst K (0 : Int32) 64 own_b1_63 rfl rfl ?_
            refine WP.iloadN K 65 own_b1_64 rfl rfl ?_
            refine WP.iastore K 66 0 A_t rfl (by simp) own_b1_65 rfl n0_t (fun h28 K29 A_t => ?_)
            have Z0 : n0 ≤ (h28).size := Nat.le_trans Z0 K29.1
            have Kp := Kp.trans K29 (ks1 (by first | (refine Or.inl ?_; simp; done) | (refine Or.inr ?_; omega)))
            have A_t : ArI Z h28 t [g1, (0 : Int32), (0 : Int32), (0 : Int32)] := A_t
            refine WP.dup K 67 own_b1_66 rfl rfl ?_
            refine WP.iconst K (1 : Int32) 68 own_b1_67 rfl rfl ?_
            refine WP.iloadN K 69 own_b1_68 rfl rfl ?_
            refine WP.iastore K 70 1 A_t rfl (by simp) own_b1_69 rfl n0_t (fun h30 K31 A_t => ?_)
            have Z0 : n0 ≤ (h30).size := Nat.le_trans Z0 K31.1
            have Kp := Kp.trans K31 (ks1 (by first | (refine Or.inl ?_; simp; done) | (refine Or.inr ?_; omega)))
            have A_t : ArI Z h30 t [g1, g2, (0 : Int32), (0 : Int32)] := A_t
            refine WP.dup K 71 own_b1_70 rfl rfl ?_
            refine WP.iconst K (2 : Int32) 72 own_b1_71 rfl rfl ?_
            refine WP.iloadN K 73 own_b1_72 rfl rfl ?_
            refine WP.iastore K 74 2 A_t rfl (by simp) own_b1_73 rfl n0_t (fun h32 K33 A_t => ?_)
            have Z0 : n0 ≤ (h32).size := Nat.le_trans Z0 K33.1
            have Kp := Kp.trans K33 (ks1 (by first | (refine Or.inl ?_; simp; done) | (refine Or.inr ?_; omega)))
            have A_t : ArI Z h32 t [g1, g2, g3, (0 : Int32)] := A_t
            refine WP.dup K 75 own_b1_74 rfl rfl ?_
            refine WP.iconst K (3 : Int32) 76 own_b1_75 rfl rfl ?_
            refine WP.iload K 78 own_b1_76 rfl rfl ?_
            refine WP.iastore K 79 3 A_t rfl (by simp) own_b1_78 rfl n0_t (fun h34 K35 A_t => ?_)
            have Z0 : n0 ≤ (h34).size := Nat.le_trans Z0 K35.1
            have Kp := Kp.trans K35 (ks1 (by first | (refine Or.inl ?_; simp; done) | (refine Or.inr ?_; omega)))
            have A_t : ArI Z h34 t [g1, g2, g3, g4] := A_t
            refine WP.aret K rfl rfl rfl rfl own_b1_79 ?_ (by decide) (by decide)
            exact ⟨_, rfl, Kp, t, rfl, n0_t, Nat.le_of_eq z_t.symm, A_t⟩
          · skip
            exact absurd c40 (by decide)
        · skip
          exact absurd c23 (by decide)
      · skip
        exact absurd c10 (by decide)
    · skip
      exact absurd c1 (by decide)
theorem own_b2_0 : decode method_4_code 0 = .ok (.iload_n 0, 1) := by decide +kernel
theorem own_b2_1 : decode method_4_code 1 = .ok (.ifCond .ne 7, 3) := by decide +kernel
theorem own_b2_4 : decode method_4_code 4 = .ok (.iconst 0, 1) := by decide +kernel
theorem own_b2_5 : decode method_4_code 5 = .ok (.newarray .int, 2) := by decide +kernel
theorem own_b2_7 : decode method_4_code 7 = .ok (.areturn, 1) := by decide +kernel
theorem own_b2_8 : decode method_4_code 8 = .ok (.iload_n 0, 1) := by decide +kernel
theorem own_b2_9 : decode method_4_code 9 = .ok (.iconst 1, 1) := by decide +kernel
theorem own_b2_10 : decode method_4_code 10 = .ok (.if_icmp .ne 11, 3) := by decide +kernel
theorem own_b2_13 : decode method_4_code 13 = .ok (.iconst 1, 1) := by decide +kernel
theorem own_b2_14 : decode method_4_code 14 = .ok (.newarray .int, 2) := by decide +kernel
theorem own_b2_16 : decode method_4_code 16 = .ok (.dup, 1) := by decide +kernel
theorem own_b2_17 : decode method_4_code 17 = .ok (.iconst 0, 1) := by decide +kernel
theorem own_b2_18 : decode method_4_code 18 = .ok (.iconst 1, 1) := by decide +kernel
theorem own_b2_19 : decode method_4_code 19 = .ok (.iastore, 1) := by decide +kernel
theorem own_b2_20 : decode method_4_code 20 = .ok (.areturn, 1) := by decide +kernel
theorem own_b2_21 : decode method_4_code 21 = .ok (.iload_n 0, 1) := by decide +kernel
theorem own_b2_22 : decode method_4_code 22 = .ok (.iconst 2, 1) := by decide +kernel
theorem own_b2_23 : decode method_4_code 23 = .ok (.if_icmp .ne 15, 3) := by decide +kernel
theorem own_b2_26 : decode method_4_code 26 = .ok (.iconst 2, 1) := by decide +kernel
theorem own_b2_27 : decode method_4_code 27 = .ok (.newarray .int, 2) := by decide +kernel
theorem own_b2_29 : decode method_4_code 29 = .ok (.dup, 1) := by decide +kernel
theorem own_b2_30 : decode method_4_code 30 = .ok (.iconst 0, 1) := by decide +kernel
theorem own_b2_31 : decode method_4_code 31 = .ok (.iconst 1, 1) := by decide +kernel
theorem own_b2_32 : decode method_4_code 32 = .ok (.iastore, 1) := by decide +kernel
theorem own_b2_33 : decode method_4_code 33 = .ok (.dup, 1) := by decide +kernel
theorem own_b2_34 : decode method_4_code 34 = .ok (.iconst 1, 1) := by decide +kernel
theorem own_b2_35 : decode method_4_code 35 = .ok (.iconst 1, 1) := by decide +kernel
theorem own_b2_36 : decode method_4_code 36 = .ok (.iastore, 1) := by decide +kernel
theorem own_b2_37 : decode method_4_code 37 = .ok (.areturn, 1) := by decide +kernel
theorem own_b2_38 : decode method_4_code 38 = .ok (.iload_n 0, 1) := by decide +kernel
theorem own_b2_39 : decode method_4_code 39 = .ok (.iconst 3, 1) := by decide +kernel
theorem own_b2_40 : decode method_4_code 40 = .ok (.if_icmp .ne 19, 3) := by decide +kernel
theorem own_b2_43 : decode method_4_code 43 = .ok (.iconst 3, 1) := by decide +kernel
theorem own_b2_44 : decode method_4_code 44 = .ok (.newarray .int, 2) := by decide +kernel
theorem own_b2_46 : decode method_4_code 46 = .ok (.dup, 1) := by decide +kernel
theorem own_b2_47 : decode method_4_code 47 = .ok (.iconst 0, 1) := by decide +kernel
theorem own_b2_48 : decode method_4_code 48 = .ok (.iconst 1, 1) := by decide +kernel
theorem own_b2_49 : decode method_4_code 49 = .ok (.iastore, 1) := by decide +kernel
theorem own_b2_50 : decode method_4_code 50 = .ok (.dup, 1) := by decide +kernel
theorem own_b2_51 : decode method_4_code 51 = .ok (.iconst 1, 1) := by decide +kernel
theorem own_b2_52 : decode method_4_code 52 = .ok (.iconst 1, 1) := by decide +kernel
theorem own_b2_53 : decode method_4_code 53 = .ok (.iastore, 1) := by decide +kernel
theorem own_b2_54 : decode method_4_code 54 = .ok (.dup, 1) := by decide +kernel
theorem own_b2_55 : decode method_4_code 55 = .ok (.iconst 2, 1) := by decide +kernel
theorem own_b2_56 : decode method_4_code 56 = .ok (.iconst 1, 1) := by decide +kernel
theorem own_b2_57 : decode method_4_code 57 = .ok (.iastore, 1) := by decide +kernel
theorem own_b2_58 : decode method_4_code 58 = .ok (.areturn, 1) := by decide +kernel
theorem own_b2_59 : decode method_4_code 59 = .ok (.iload_n 0, 1) := by decide +kernel
theorem own_b2_60 : decode method_4_code 60 = .ok (.iconst 4, 1) := by decide +kernel
theorem own_b2_61 : decode method_4_code 61 = .ok (.if_icmp .ne 23, 3) := by decide +kernel
theorem own_b2_64 : decode method_4_code 64 = .ok (.iconst 4, 1) := by decide +kernel
theorem own_b2_65 : decode method_4_code 65 = .ok (.newarray .int, 2) := by decide +kernel
theorem own_b2_67 : decode method_4_code 67 = .ok (.dup, 1) := by decide +kernel
theorem own_b2_68 : decode method_4_code 68 = .ok (.iconst 0, 1) := by decide +kernel
theorem own_b2_69 : decode method_4_code 69 = .ok (.iconst 1, 1) := by decide +kernel
theorem own_b2_70 : decode method_4_code 70 = .ok (.iastore, 1) := by decide +kernel
theorem own_b2_71 : decode method_4_code 71 = .ok (.dup, 1) := by decide +kernel
theorem own_b2_72 : decode method_4_code 72 = .ok (.iconst 1, 1) := by decide +kernel
theorem own_b2_73 : decode method_4_code 73 = .ok (.iconst 1, 1) := by decide +kernel
theorem own_b2_74 : decode method_4_code 74 = .ok (.iastore, 1) := by decide +kernel
theorem own_b2_75 : decode method_4_code 75 = .ok (.dup, 1) := by decide +kernel
theorem own_b2_76 : decode method_4_code 76 = .ok (.iconst 2, 1) := by decide +kernel
theorem own_b2_77 : decode method_4_code 77 = .ok (.iconst 1, 1) := by decide +kernel
theorem own_b2_78 : decode method_4_code 78 = .ok (.iastore, 1) := by decide +kernel
theorem own_b2_79 : decode method_4_code 79 = .ok (.dup, 1) := by decide +kernel
theorem own_b2_80 : decode method_4_code 80 = .ok (.iconst 3, 1) := by decide +kernel
theorem own_b2_81 : decode method_4_code 81 = .ok (.iconst 1, 1) := by decide +kernel
theorem own_b2_82 : decode method_4_code 82 = .ok (.iastore, 1) := by decide +kernel
theorem own_b2_83 : decode method_4_code 83 = .ok (.areturn, 1) := by decide +kernel
theorem own_b2_84 : decode method_4_code 84 = .ok (.iconst 5, 1) := by decide +kernel
theorem own_b2_85 : decode method_4_code 85 = .ok (.newarray .int, 2) := by decide +kernel
theorem own_b2_87 : decode method_4_code 87 = .ok (.dup, 1) := by decide +kernel
theorem own_b2_88 : decode method_4_code 88 = .ok (.iconst 0, 1) := by decide +kernel
theorem own_b2_89 : decode method_4_code 89 = .ok (.iconst 1, 1) := by decide +kernel
theorem own_b2_90 : decode method_4_code 90 = .ok (.iastore, 1) := by decide +kernel
theorem own_b2_91 : decode method_4_code 91 = .ok (.dup, 1) := by decide +kernel
theorem own_b2_92 : decode method_4_code 92 = .ok (.iconst 1, 1) := by decide +kernel
theorem own_b2_93 : decode method_4_code 93 = .ok (.iconst 1, 1) := by decide +kernel
theorem own_b2_94 : decode method_4_code 94 = .ok (.iastore, 1) := by decide +kernel
theorem own_b2_95 : decode method_4_code 95 = .ok (.dup, 1) := by decide +kernel
theorem own_b2_96 : decode method_4_code 96 = .ok (.iconst 2, 1) := by decide +kernel
theorem own_b2_97 : decode method_4_code 97 = .ok (.iconst 1, 1) := by decide +kernel
theorem own_b2_98 : decode method_4_code 98 = .ok (.iastore, 1) := by decide +kernel
theorem own_b2_99 : decode method_4_code 99 = .ok (.dup, 1) := by decide +kernel
theorem own_b2_100 : decode method_4_code 100 = .ok (.iconst 3, 1) := by decide +kernel
theorem own_b2_101 : decode method_4_code 101 = .ok (.iconst 1, 1) := by decide +kernel
theorem own_b2_102 : decode method_4_code 102 = .ok (.iastore, 1) := by decide +kernel
theorem own_b2_103 : decode method_4_code 103 = .ok (.dup, 1) := by decide +kernel
theorem own_b2_104 : decode method_4_code 104 = .ok (.iconst 4, 1) := by decide +kernel
theorem own_b2_105 : decode method_4_code 105 = .ok (.iconst 1, 1) := by decide +kernel
theorem own_b2_106 : decode method_4_code 106 = .ok (.iastore, 1) := by decide +kernel
theorem own_b2_107 : decode method_4_code 107 = .ok (.areturn, 1) := by decide +kernel
theorem own_pf_b2 : plainFor (⟨"com/example/sorgu/sorgu/eval/JudgedRankingAveragePrecisionPinLaw", "idealOf", "(I)[I"⟩ : MethodName) = true := by first | exact plainFor_of_name (by first | (simp [plainName, overriddenIn, x]; done) | decide +kernel) | decide +kernel
set_option maxRecDepth 65536 in
set_option maxHeartbeats 40000000 in
theorem own_ideal (l : Launch) (Z : State) (a0 : Array Value) (hw : ∀ d ∈ tables_1, d.before a0 Z = true) (n0 : Nat) (h : Heap) (rr : Int32) (n : Nat) (hn : rr.toInt = (n : Nat)) (hn5 : n ≤ 5) (Z0 : n0 ≤ h.size) :
    Con l Z (⟨"com/example/sorgu/sorgu/eval/JudgedRankingAveragePrecisionPinLaw", "idealOf", "(I)[I"⟩ : MethodName) method_4_code 1 (some (.array .int)) ({ frames := 0, cells := 1, slots := 5, locals := 0 } : Room) n0 #[(.int rr)] h (R1 fun r h' => Keep h h' [] ∧ ∃ a : Nat, r = .ref a ∧ n0 ≤ a ∧ h.size ≤ a ∧ ArI Z h' a (List.replicate n 1)) := by
  refine Con.of (ls := [.val (.int rr)]) own_pf_b2 (fun m => by first | (simp [entryFrame, mkF, argsToLocals, Value.category]; done) | rfl) fun k K => ?_
  have k_0 : (0 : Int32).toInt = 0 := rfl
  have k_1 : (1 : Int32).toInt = 1 := rfl
  have k_2 : (2 : Int32).toInt = 2 := rfl
  have k_3 : (3 : Int32).toInt = 3 := rfl
  have k_4 : (4 : Int32).toInt = 4 := rfl
  have k_5 : (5 : Int32).toInt = 5 := rfl
  have Kp := Keep.refl h []
  obtain rfl | rfl | rfl | rfl | rfl | rfl : n = 0 ∨ n = 1 ∨ n = 2 ∨ n = 3 ∨ n = 4 ∨ n = 5 := by omega
  · skip
    obtain rfl : rr = (0 : Int32) := i32_eq hn
    refine WP.iloadN K 1 own_b2_0 rfl rfl ?_
    refine WP.if_ne K 8 4 own_b2_1 (by decide) rfl (fun c1 => ?_) (fun c1 => ?_)
    · skip
      exact absurd c1 (by decide)
    · skip
      refine WP.iconst K (0 : Int32) 5 own_b2_4 rfl rfl ?_
      refine WP.newarray K 7 0 0 1 0 (hw _ (List.mem_of_getElem? (i := 4) rfl)) own_b2_5 rfl rfl (Nat.le_refl _) (by decide) rfl rfl (by decide) (by decide) (fun h1 t z_t E2 V3 => ?_)
      have n0_t : @LE.le Nat _ n0 t := z_t ▸ Z0
      have Z0 : n0 ≤ (h1).size := Nat.le_trans Z0 E2.1
      have Kp := Kp.ext E2
      have A_t := ArI.of_new V3
      have A_t : ArI Z h1 t [] := A_t
      refine WP.aret K rfl rfl rfl rfl own_b2_7 ?_ (by decide) (by decide)
      exact ⟨_, rfl, Kp, t, rfl, n0_t, Nat.le_of_eq z_t.symm, A_t⟩
  · skip
    obtain rfl : rr = (1 : Int32) := i32_eq hn
    refine WP.iloadN K 1 own_b2_0 rfl rfl ?_
    refine WP.if_ne K 8 4 own_b2_1 (by decide) rfl (fun c1 => ?_) (fun c1 => ?_)
    · skip
      refine WP.iloadN K 9 own_b2_8 rfl rfl ?_
      refine WP.iconst K (1 : Int32) 10 own_b2_9 rfl rfl ?_
      refine WP.icmp_ne K 21 13 own_b2_10 (by decide) rfl (fun c10 => ?_) (fun c10 => ?_)
      · skip
        exact absurd c10 (by decide)
      · skip
        refine WP.iconst K (1 : Int32) 14 own_b2_13 rfl rfl ?_
        refine WP.newarray K 16 1 1 1 1 (hw _ (List.mem_of_getElem? (i := 4) rfl)) own_b2_14 rfl rfl (Nat.le_refl _) (by decide) rfl rfl (by decide) (by decide) (fun h4 t z_t E5 V6 => ?_)
        have n0_t : @LE.le Nat _ n0 t := z_t ▸ Z0
        have Z0 : n0 ≤ (h4).size := Nat.le_trans Z0 E5.1
        have Kp := Kp.ext E5
        have A_t := ArI.of_new V6
        have A_t : ArI Z h4 t [(0 : Int32)] := A_t
        refine WP.dup K 17 own_b2_16 rfl rfl ?_
        refine WP.iconst K (0 : Int32) 18 own_b2_17 rfl rfl ?_
        refine WP.iconst K (1 : Int32) 19 own_b2_18 rfl rfl ?_
        refine WP.iastore K 20 0 A_t rfl (by simp) own_b2_19 rfl n0_t (fun h7 K8 A_t => ?_)
        have Z0 : n0 ≤ (h7).size := Nat.le_trans Z0 K8.1
        have Kp := Kp.trans K8 (ks1 (by first | (refine Or.inl ?_; simp; done) | (refine Or.inr ?_; omega)))
        have A_t : ArI Z h7 t [(1 : Int32)] := A_t
        refine WP.aret K rfl rfl rfl rfl own_b2_20 ?_ (by decide) (by decide)
        exact ⟨_, rfl, Kp, t, rfl, n0_t, Nat.le_of_eq z_t.symm, A_t⟩
    · skip
      exact absurd c1 (by decide)
  · skip
    obtain rfl : rr = (2 : Int32) := i32_eq hn
    refine WP.iloadN K 1 own_b2_0 rfl rfl ?_
    refine WP.if_ne K 8 4 own_b2_1 (by decide) rfl (fun c1 => ?_) (fun c1 => ?_)
    · skip
      refine WP.iloadN K 9 own_b2_8 rfl rfl ?_
      refine WP.iconst K (1 : Int32) 10 own_b2_9 rfl rfl ?_
      refine WP.icmp_ne K 21 13 own_b2_10 (by decide) rfl (fun c10 => ?_) (fun c10 => ?_)
      · skip
        refine WP.iloadN K 22 own_b2_21 rfl rfl ?_
        refine WP.iconst K (2 : Int32) 23 own_b2_22 rfl rfl ?_
        refine WP.icmp_ne K 38 26 own_b2_23 (by decide) rfl (fun c23 => ?_) (fun c23 => ?_)
        · skip
          exact absurd c23 (by decide)
        · skip
          refine WP.iconst K (2 : Int32) 27 own_b2_26 rfl rfl ?_
          refine WP.newarray K 29 2 2 1 2 (hw _ (List.mem_of_getElem? (i := 4) rfl)) own_b2_27 rfl rfl (Nat.le_refl _) (by decide) rfl rfl (by decide) (by decide) (fun h9 t z_t E10 V11 => ?_)
          have n0_t : @LE.le Nat _ n0 t := z_t ▸ Z0
          have Z0 : n0 ≤ (h9).size := Nat.le_trans Z0 E10.1
          have Kp := Kp.ext E10
          have A_t := ArI.of_new V11
          have A_t : ArI Z h9 t [(0 : Int32), (0 : Int32)] := A_t
          refine WP.dup K 30 own_b2_29 rfl rfl ?_
          refine WP.iconst K (0 : Int32) 31 own_b2_30 rfl rfl ?_
          refine WP.iconst K (1 : Int32) 32 own_b2_31 rfl rfl ?_
          refine WP.iastore K 33 0 A_t rfl (by simp) own_b2_32 rfl n0_t (fun h12 K13 A_t => ?_)
          have Z0 : n0 ≤ (h12).size := Nat.le_trans Z0 K13.1
          have Kp := Kp.trans K13 (ks1 (by first | (refine Or.inl ?_; simp; done) | (refine Or.inr ?_; omega)))
          have A_t : ArI Z h12 t [(1 : Int32), (0 : Int32)] := A_t
          refine WP.dup K 34 own_b2_33 rfl rfl ?_
          refine WP.iconst K (1 : Int32) 35 own_b2_34 rfl rfl ?_
          refine WP.iconst K (1 : Int32) 36 own_b2_35 rfl rfl ?_
          refine WP.iastore K 37 1 A_t rfl (by simp) own_b2_36 rfl n0_t (fun h14 K15 A_t => ?_)
          have Z0 : n0 ≤ (h14).size := Nat.le_trans Z0 K15.1
          have Kp := Kp.trans K15 (ks1 (by first | (refine Or.inl ?_; simp; done) | (refine Or.inr ?_; omega)))
          have A_t : ArI Z h14 t [(1 : Int32), (1 : Int32)] := A_t
          refine WP.aret K rfl rfl rfl rfl own_b2_37 ?_ (by decide) (by decide)
          exact ⟨_, rfl, Kp, t, rfl, n0_t, Nat.le_of_eq z_t.symm, A_t⟩
      · skip
        exact absurd c10 (by decide)
    · skip
      exact absurd c1 (by decide)
  · skip
    obtain rfl : rr = (3 : Int32) := i32_eq hn
    refine WP.iloadN K 1 own_b2_0 rfl rfl ?_
    refine WP.if_ne K 8 4 own_b2_1 (by decide) rfl (fun c1 => ?_) (fun c1 => ?_)
    · skip
      refine WP.iloadN K 9 own_b2_8 rfl rfl ?_
      refine WP.iconst K (1 : Int32) 10 own_b2_9 rfl rfl ?_
      refine WP.icmp_ne K 21 13 own_b2_10 (by decide) rfl (fun c10 => ?_) (fun c10 => ?_)
      · skip
        refine WP.iloadN K 22 own_b2_21 rfl rfl ?_
        refine WP.iconst K (2 : Int32) 23 own_b2_22 rfl rfl ?_
        refine WP.icmp_ne K 38 26 own_b2_23 (by decide) rfl (fun c23 => ?_) (fun c23 => ?_)
        · skip
          refine WP.iloadN K 39 own_b2_38 rfl rfl ?_
          refine WP.iconst K (3 : Int32) 40 own_b2_39 rfl rfl ?_
          refine WP.icmp_ne K 59 43 own_b2_40 (by decide) rfl (fun c40 => ?_) (fun c40 => ?_)
          · skip
            exact absurd c40 (by decide)
          · skip
            refine WP.iconst K (3 : Int32) 44 own_b2_43 rfl rfl ?_
            refine WP.newarray K 46 3 3 1 3 (hw _ (List.mem_of_getElem? (i := 4) rfl)) own_b2_44 rfl rfl (Nat.le_refl _) (by decide) rfl rfl (by decide) (by decide) (fun h16 t z_t E17 V18 => ?_)
            have n0_t : @LE.le Nat _ n0 t := z_t ▸ Z0
            have Z0 : n0 ≤ (h16).size := Nat.le_trans Z0 E17.1
            have Kp := Kp.ext E17
            have A_t := ArI.of_new V18
            have A_t : ArI Z h16 t [(0 : Int32), (0 : Int32), (0 : Int32)] := A_t
            refine WP.dup K 47 own_b2_46 rfl rfl ?_
            refine WP.iconst K (0 : Int32) 48 own_b2_47 rfl rfl ?_
            refine WP.iconst K (1 : Int32) 49 own_b2_48 rfl rfl ?_
            refine WP.iastore K 50 0 A_t rfl (by simp) own_b2_49 rfl n0_t (fun h19 K20 A_t => ?_)
            have Z0 : n0 ≤ (h19).size := Nat.le_trans Z0 K20.1
            have Kp := Kp.trans K20 (ks1 (by first | (refine Or.inl ?_; simp; done) | (refine Or.inr ?_; omega)))
            have A_t : ArI Z h19 t [(1 : Int32), (0 : Int32), (0 : Int32)] := A_t
            refine WP.dup K 51 own_b2_50 rfl rfl ?_
            refine WP.iconst K (1 : Int32) 52 own_b2_51 rfl rfl ?_
            refine WP.iconst K (1 : Int32) 53 own_b2_52 rfl rfl ?_
            refine WP.iastore K 54 1 A_t rfl (by simp) own_b2_53 rfl n0_t (fun h21 K22 A_t => ?_)
            have Z0 : n0 ≤ (h21).size := Nat.le_trans Z0 K22.1
            have Kp := Kp.trans K22 (ks1 (by first | (refine Or.inl ?_; simp; done) | (refine Or.inr ?_; omega)))
            have A_t : ArI Z h21 t [(1 : Int32), (1 : Int32), (0 : Int32)] := A_t
            refine WP.dup K 55 own_b2_54 rfl rfl ?_
            refine WP.iconst K (2 : Int32) 56 own_b2_55 rfl rfl ?_
            refine WP.iconst K (1 : Int32) 57 own_b2_56 rfl rfl ?_
            refine WP.iastore K 58 2 A_t rfl (by simp) own_b2_57 rfl n0_t (fun h23 K24 A_t => ?_)
            have Z0 : n0 ≤ (h23).size := Nat.le_trans Z0 K24.1
            have Kp := Kp.trans K24 (ks1 (by first | (refine Or.inl ?_; simp; done) | (refine Or.inr ?_; omega)))
            have A_t : ArI Z h23 t [(1 : Int32), (1 : Int32), (1 : Int32)] := A_t
            refine WP.aret K rfl rfl rfl rfl own_b2_58 ?_ (by decide) (by decide)
            exact ⟨_, rfl, Kp, t, rfl, n0_t, Nat.le_of_eq z_t.symm, A_t⟩
        · skip
          exact absurd c23 (by decide)
      · skip
        exact absurd c10 (by decide)
    · skip
      exact absurd c1 (by decide)
  · skip
    obtain rfl : rr = (4 : Int32) := i32_eq hn
    refine WP.iloadN K 1 own_b2_0 rfl rfl ?_
    refine WP.if_ne K 8 4 own_b2_1 (by decide) rfl (fun c1 => ?_) (fun c1 => ?_)
    · skip
      refine WP.iloadN K 9 own_b2_8 rfl rfl ?_
      refine WP.iconst K (1 : Int32) 10 own_b2_9 rfl rfl ?_
      refine WP.icmp_ne K 21 13 own_b2_10 (by decide) rfl (fun c10 => ?_) (fun c10 => ?_)
      · skip
        refine WP.iloadN K 22 own_b2_21 rfl rfl ?_
        refine WP.iconst K (2 : Int32) 23 own_b2_22 rfl rfl ?_
        refine WP.icmp_ne K 38 26 own_b2_23 (by decide) rfl (fun c23 => ?_) (fun c23 => ?_)
        · skip
          refine WP.iloadN K 39 own_b2_38 rfl rfl ?_
          refine WP.iconst K (3 : Int32) 40 own_b2_39 rfl rfl ?_
          refine WP.icmp_ne K 59 43 own_b2_40 (by decide) rfl (fun c40 => ?_) (fun c40 => ?_)
          · skip
            refine WP.iloadN K 60 own_b2_59 rfl rfl ?_
            refine WP.iconst K (4 : Int32) 61 own_b2_60 rfl rfl ?_
            refine WP.icmp_ne K 84 64 own_b2_61 (by decide) rfl (fun c61 => ?_) (fun c61 => ?_)
            · skip
              exact absurd c61 (by decide)
            · skip
              refine WP.iconst K (4 : Int32) 65 own_b2_64 rfl rfl ?_
              refine WP.newarray K 67 4 4 1 4 (hw _ (List.mem_of_getElem? (i := 4) rfl)) own_b2_65 rfl rfl (Nat.le_refl _) (by decide) rfl rfl (by decide) (by decide) (fun h25 t z_t E26 V27 => ?_)
              have n0_t : @LE.le Nat _ n0 t := z_t ▸ Z0
              have Z0 : n0 ≤ (h25).size := Nat.le_trans Z0 E26.1
              have Kp := Kp.ext E26
              have A_t := ArI.of_new V27
              have A_t : ArI Z h25 t [(0 : Int32), (0 : Int32), (0 : Int32), (0 : Int32)] := A_t
              refine WP.dup K 68 own_b2_67 rfl rfl ?_
              refine WP.iconst K (0 : Int32) 69 own_b2_68 rfl rfl ?_
              refine WP.iconst K (1 : Int32) 70 own_b2_69 rfl rfl ?_
              refine WP.iastore K 71 0 A_t rfl (by simp) own_b2_70 rfl n0_t (fun h28 K29 A_t => ?_)
              have Z0 : n0 ≤ (h28).size := Nat.le_trans Z0 K29.1
              have Kp := Kp.trans K29 (ks1 (by first | (refine Or.inl ?_; simp; done) | (refine Or.inr ?_; omega)))
              have A_t : ArI Z h28 t [(1 : Int32), (0 : Int32), (0 : Int32), (0 : Int32)] := A_t
              refine WP.dup K 72 own_b2_71 rfl rfl ?_
              refine WP.iconst K (1 : Int32) 73 own_b2_72 rfl rfl ?_
              refine WP.iconst K (1 : Int32) 74 own_b2_73 rfl rfl ?_
              refine WP.iastore K 75 1 A_t rfl (by simp) own_b2_74 rfl n0_t (fun h30 K31 A_t => ?_)
              have Z0 : n0 ≤ (h30).size := Nat.le_trans Z0 K31.1
              have Kp := Kp.trans K31 (ks1 (by first | (refine Or.inl ?_; simp; done) | (refine Or.inr ?_; omega)))
              have A_t : ArI Z h30 t [(1 : Int32), (1 : Int32), (0 : Int32), (0 : Int32)] := A_t
              refine WP.dup K 76 own_b2_75 rfl rfl ?_
              refine WP.iconst K (2 : Int32) 77 own_b2_76 rfl rfl ?_
              refine WP.iconst K (1 : Int32) 78 own_b2_77 rfl rfl ?_
              refine WP.iastore K 79 2 A_t rfl (by simp) own_b2_78 rfl n0_t (fun h32 K33 A_t => ?_)
              have Z0 : n0 ≤ (h32).size := Nat.le_trans Z0 K33.1
              have Kp := Kp.trans K33 (ks1 (by first | (refine Or.inl ?_; simp; done) | (refine Or.inr ?_; omega)))
              have A_t : ArI Z h32 t [(1 : Int32), (1 : Int32), (1 : Int32), (0 : Int32)] := A_t
              refine WP.dup K 80 own_b2_79 rfl rfl ?_
              refine WP.iconst K (3 : Int32) 81 own_b2_80 rfl rfl ?_
              refine WP.iconst K (1 : Int32) 82 own_b2_81 rfl rfl ?_
              refine WP.iastore K 83 3 A_t rfl (by simp) own_b2_82 rfl n0_t (fun h34 K35 A_t => ?_)
              have Z0 : n0 ≤ (h34).size := Nat.le_trans Z0 K35.1
              have Kp := Kp.trans K35 (ks1 (by first | (refine Or.inl ?_; simp; done) | (refine Or.inr ?_; omega)))
              have A_t : ArI Z h34 t [(1 : Int32), (1 : Int32), (1 : Int32), (1 : Int32)] := A_t
              refine WP.aret K rfl rfl rfl rfl own_b2_83 ?_ (by decide) (by decide)
              exact ⟨_, rfl, Kp, t, rfl, n0_t, Nat.le_of_eq z_t.symm, A_t⟩
          · skip
            exact absurd c40 (by decide)
        · skip
          exact absurd c23 (by decide)
      · skip
        exact absurd c10 (by decide)
    · skip
      exact absurd c1 (by decide)
  · skip
    obtain rfl : rr = (5 : Int32) := i32_eq hn
    refine WP.iloadN K 1 own_b2_0 rfl rfl ?_
    refine WP.if_ne K 8 4 own_b2_1 (by decide) rfl (fun c1 => ?_) (fun c1 => ?_)
    · skip
      refine WP.iloadN K 9 own_b2_8 rfl rfl ?_
      refine WP.iconst K (1 : Int32) 10 own_b2_9 rfl rfl ?_
      refine WP.icmp_ne K 21 13 own_b2_10 (by decide) rfl (fun c10 => ?_) (fun c10 => ?_)
      · skip
        refine WP.iloadN K 22 own_b2_21 rfl rfl ?_
        refine WP.iconst K (2 : Int32) 23 own_b2_22 rfl rfl ?_
        refine WP.icmp_ne K 38 26 own_b2_23 (by decide) rfl (fun c23 => ?_) (fun c23 => ?_)
        · skip
          refine WP.iloadN K 39 own_b2_38 rfl rfl ?_
          refine WP.iconst K (3 : Int32) 40 own_b2_39 rfl rfl ?_
          refine WP.icmp_ne K 59 43 own_b2_40 (by decide) rfl (fun c40 => ?_) (fun c40 => ?_)
          · skip
            refine WP.iloadN K 60 own_b2_59 rfl rfl ?_
            refine WP.iconst K (4 : Int32) 61 own_b2_60 rfl rfl ?_
            refine WP.icmp_ne K 84 64 own_b2_61 (by decide) rfl (fun c61 => ?_) (fun c61 => ?_)
            · skip
              refine WP.iconst K (5 : Int32) 85 own_b2_84 rfl rfl ?_
              refine WP.newarray K 87 5 5 1 5 (hw _ (List.mem_of_getElem? (i := 4) rfl)) own_b2_85 rfl rfl (Nat.le_refl _) (by decide) rfl rfl (by decide) (by decide) (fun h36 t z_t E37 V38 => ?_)
              have n0_t : @LE.le Nat _ n0 t := z_t ▸ Z0
              have Z0 : n0 ≤ (h36).size := Nat.le_trans Z0 E37.1
              have Kp := Kp.ext E37
              have A_t := ArI.of_new V38
              have A_t : ArI Z h36 t [(0 : Int32), (0 : Int32), (0 : Int32), (0 : Int32), (0 : Int32)] := A_t
              refine WP.dup K 88 own_b2_87 rfl rfl ?_
              refine WP.iconst K (0 : Int32) 89 own_b2_88 rfl rfl ?_
              refine WP.iconst K (1 : Int32) 90 own_b2_89 rfl rfl ?_
              refine WP.iastore K 91 0 A_t rfl (by simp) own_b2_90 rfl n0_t (fun h39 K40 A_t => ?_)
              have Z0 : n0 ≤ (h39).size := Nat.le_trans Z0 K40.1
              have Kp := Kp.trans K40 (ks1 (by first | (refine Or.inl ?_; simp; done) | (refine Or.inr ?_; omega)))
              have A_t : ArI Z h39 t [(1 : Int32), (0 : Int32), (0 : Int32), (0 : Int32), (0 : Int32)] := A_t
              refine WP.dup K 92 own_b2_91 rfl rfl ?_
              refine WP.iconst K (1 : Int32) 93 own_b2_92 rfl rfl ?_
              refine WP.iconst K (1 : Int32) 94 own_b2_93 rfl rfl ?_
              refine WP.iastore K 95 1 A_t rfl (by simp) own_b2_94 rfl n0_t (fun h41 K42 A_t => ?_)
              have Z0 : n0 ≤ (h41).size := Nat.le_trans Z0 K42.1
              have Kp := Kp.trans K42 (ks1 (by first | (refine Or.inl ?_; simp; done) | (refine Or.inr ?_; omega)))
              have A_t : ArI Z h41 t [(1 : Int32), (1 : Int32), (0 : Int32), (0 : Int32), (0 : Int32)] := A_t
              refine WP.dup K 96 own_b2_95 rfl rfl ?_
              refine WP.iconst K (2 : Int32) 97 own_b2_96 rfl rfl ?_
              refine WP.iconst K (1 : Int32) 98 own_b2_97 rfl rfl ?_
              refine WP.iastore K 99 2 A_t rfl (by simp) own_b2_98 rfl n0_t (fun h43 K44 A_t => ?_)
              have Z0 : n0 ≤ (h43).size := Nat.le_trans Z0 K44.1
              have Kp := Kp.trans K44 (ks1 (by first | (refine Or.inl ?_; simp; done) | (refine Or.inr ?_; omega)))
              have A_t : ArI Z h43 t [(1 : Int32), (1 : Int32), (1 : Int32), (0 : Int32), (0 : Int32)] := A_t
              refine WP.dup K 100 own_b2_99 rfl rfl ?_
              refine WP.iconst K (3 : Int32) 101 own_b2_100 rfl rfl ?_
              refine WP.iconst K (1 : Int32) 102 own_b2_101 rfl rfl ?_
              refine WP.iastore K 103 3 A_t rfl (by simp) own_b2_102 rfl n0_t (fun h45 K46 A_t => ?_)
              have Z0 : n0 ≤ (h45).size := Nat.le_trans Z0 K46.1
              have Kp := Kp.trans K46 (ks1 (by first | (refine Or.inl ?_; simp; done) | (refine Or.inr ?_; omega)))
              have A_t : ArI Z h45 t [(1 : Int32), (1 : Int32), (1 : Int32), (1 : Int32), (0 : Int32)] := A_t
              refine WP.dup K 104 own_b2_103 rfl rfl ?_
              refine WP.iconst K (4 : Int32) 105 own_b2_104 rfl rfl ?_
              refine WP.iconst K (1 : Int32) 106 own_b2_105 rfl rfl ?_
              refine WP.iastore K 107 4 A_t rfl (by simp) own_b2_106 rfl n0_t (fun h47 K48 A_t => ?_)
              have Z0 : n0 ≤ (h47).size := Nat.le_trans Z0 K48.1
              have Kp := Kp.trans K48 (ks1 (by first | (refine Or.inl ?_; simp; done) | (refine Or.inr ?_; omega)))
              have A_t : ArI Z h47 t [(1 : Int32), (1 : Int32), (1 : Int32), (1 : Int32), (1 : Int32)] := A_t
              refine WP.aret K rfl rfl rfl rfl own_b2_107 ?_ (by decide) (by decide)
              exact ⟨_, rfl, Kp, t, rfl, n0_t, Nat.le_of_eq z_t.symm, A_t⟩
            · skip
              exact absurd c61 (by decide)
          · skip
            exact absurd c40 (by decide)
        · skip
          exact absurd c23 (by decide)
      · skip
        exact absurd c10 (by decide)
    · skip
      exact absurd c1 (by decide)
theorem own_b6_0 : decode prog_11_method_4_code 0 = .ok (.aload_n 0, 1) := by decide +kernel
theorem own_b6_1 : decode prog_11_method_4_code 1 = .ok (.getfield 13, 3) := by decide +kernel
theorem own_b6_4 : decode prog_11_method_4_code 4 = .ok (.arraylength, 1) := by decide +kernel
theorem own_b6_5 : decode prog_11_method_4_code 5 = .ok (.ifCond .ne 5, 3) := by decide +kernel
theorem own_b6_8 : decode prog_11_method_4_code 8 = .ok (.dconst 0, 1) := by decide +kernel
theorem own_b6_9 : decode prog_11_method_4_code 9 = .ok (.dreturn, 1) := by decide +kernel
theorem own_b6_10 : decode prog_11_method_4_code 10 = .ok (.dconst 0, 1) := by decide +kernel
theorem own_b6_11 : decode prog_11_method_4_code 11 = .ok (.dstore_n 1, 1) := by decide +kernel
theorem own_b6_12 : decode prog_11_method_4_code 12 = .ok (.iconst 0, 1) := by decide +kernel
theorem own_b6_13 : decode prog_11_method_4_code 13 = .ok (.istore_n 3, 1) := by decide +kernel
theorem own_b6_14 : decode prog_11_method_4_code 14 = .ok (.iconst 1, 1) := by decide +kernel
theorem own_b6_15 : decode prog_11_method_4_code 15 = .ok (.istore 4, 2) := by decide +kernel
theorem own_b6_17 : decode prog_11_method_4_code 17 = .ok (.iload 4, 2) := by decide +kernel
theorem own_b6_19 : decode prog_11_method_4_code 19 = .ok (.aload_n 0, 1) := by decide +kernel
theorem own_b6_20 : decode prog_11_method_4_code 20 = .ok (.getfield 7, 3) := by decide +kernel
theorem own_b6_23 : decode prog_11_method_4_code 23 = .ok (.arraylength, 1) := by decide +kernel
theorem own_b6_24 : decode prog_11_method_4_code 24 = .ok (.if_icmp .gt 33, 3) := by decide +kernel
theorem own_b6_27 : decode prog_11_method_4_code 27 = .ok (.aload_n 0, 1) := by decide +kernel
theorem own_b6_28 : decode prog_11_method_4_code 28 = .ok (.getfield 7, 3) := by decide +kernel
theorem own_b6_31 : decode prog_11_method_4_code 31 = .ok (.iload 4, 2) := by decide +kernel
theorem own_b6_33 : decode prog_11_method_4_code 33 = .ok (.iconst 1, 1) := by decide +kernel
theorem own_b6_34 : decode prog_11_method_4_code 34 = .ok (.isub, 1) := by decide +kernel
theorem own_b6_35 : decode prog_11_method_4_code 35 = .ok (.iaload, 1) := by decide +kernel
theorem own_b6_36 : decode prog_11_method_4_code 36 = .ok (.ifCond .le 15, 3) := by decide +kernel
theorem own_b6_39 : decode prog_11_method_4_code 39 = .ok (.iinc 3 1, 3) := by decide +kernel
theorem own_b6_42 : decode prog_11_method_4_code 42 = .ok (.dload_n 1, 1) := by decide +kernel
theorem own_b6_43 : decode prog_11_method_4_code 43 = .ok (.iload_n 3, 1) := by decide +kernel
theorem own_b6_44 : decode prog_11_method_4_code 44 = .ok (.i2d, 1) := by decide +kernel
theorem own_b6_45 : decode prog_11_method_4_code 45 = .ok (.iload 4, 2) := by decide +kernel
theorem own_b6_47 : decode prog_11_method_4_code 47 = .ok (.i2d, 1) := by decide +kernel
theorem own_b6_48 : decode prog_11_method_4_code 48 = .ok (.ddiv, 1) := by decide +kernel
theorem own_b6_49 : decode prog_11_method_4_code 49 = .ok (.dadd, 1) := by decide +kernel
theorem own_b6_50 : decode prog_11_method_4_code 50 = .ok (.dstore_n 1, 1) := by decide +kernel
theorem own_b6_51 : decode prog_11_method_4_code 51 = .ok (.iinc 4 1, 3) := by decide +kernel
theorem own_b6_54 : decode prog_11_method_4_code 54 = .ok (.goto (-37), 3) := by decide +kernel
theorem own_b6_57 : decode prog_11_method_4_code 57 = .ok (.dload_n 1, 1) := by decide +kernel
theorem own_b6_58 : decode prog_11_method_4_code 58 = .ok (.aload_n 0, 1) := by decide +kernel
theorem own_b6_59 : decode prog_11_method_4_code 59 = .ok (.getfield 13, 3) := by decide +kernel
theorem own_b6_62 : decode prog_11_method_4_code 62 = .ok (.arraylength, 1) := by decide +kernel
theorem own_b6_63 : decode prog_11_method_4_code 63 = .ok (.i2d, 1) := by decide +kernel
theorem own_b6_64 : decode prog_11_method_4_code 64 = .ok (.ddiv, 1) := by decide +kernel
theorem own_b6_65 : decode prog_11_method_4_code 65 = .ok (.dreturn, 1) := by decide +kernel
theorem own_pf_b6 : plainFor (⟨"com/example/sorgu/sorgu/eval/JudgedRanking", "averagePrecision", "()D"⟩ : MethodName) = true := by first | exact plainFor_of_name (by first | (simp [plainName, overriddenIn, x]; done) | decide +kernel) | decide +kernel
set_option maxRecDepth 65536 in
set_option maxHeartbeats 40000000 in
theorem own_avg (l : Launch) (Z : State) (a0 : Array Value) (hw : ∀ d ∈ tables_1, d.before a0 Z = true) (n0 : Nat) (h : Heap) (o g d : Nat) (xs ys : List Int32) (rr : Int32) (Fg : Fld Z h o "com/example/sorgu/sorgu/eval/JudgedRanking" "gains" "[I" (.ref g)) (Fd : Fld Z h o "com/example/sorgu/sorgu/eval/JudgedRanking" "idealGains" "[I" (.ref d)) (A_g : ArI Z h g xs) (A_d : ArI Z h d ys) (hl4 : xs.length ≤ 4) (hr : rr.toInt = (ys.length : Nat)) (hr5 : ys.length ≤ 5) :
    Con l Z (⟨"com/example/sorgu/sorgu/eval/JudgedRanking", "averagePrecision", "()D"⟩ : MethodName) prog_11_method_4_code 5 (some .double) ({ frames := 0, cells := 0, slots := 0, locals := 0 } : Room) n0 #[(.ref o)] h (R1 fun r h' => ((rr.toInt = 0 ∧ r = .double FP.dconst0) ∨ (rr.toInt ≠ 0 ∧ r = .double (FP.ddiv (own_sb (own_bs xs) 1 0 FP.dconst0) (FP.i2d rr)) ∧ NoNaN64 (FP.ddiv (own_sb (own_bs xs) 1 0 FP.dconst0) (FP.i2d rr)))) ∧ h = h') := by
  refine Con.of (ls := [.val (.ref o), .unset, .unset, .unset, .unset]) own_pf_b6 (fun m => by first | (simp [entryFrame, mkF, argsToLocals, Value.category]; done) | rfl) fun k K => ?_
  have k_0 : (0 : Int32).toInt = 0 := rfl
  have k_1 : (1 : Int32).toInt = 1 := rfl
  obtain ⟨z, hz⟩ := i32_of A_g.len
  refine WP.aloadN K 1 own_b6_0 rfl rfl rfl ?_
  refine WP.getfield K (host := "") 4 (Or.inl (hw _ (List.mem_of_getElem? (i := 24) rfl))) Via.refl Fd own_b6_1 rfl ?_
  refine WP.arraylength K rr 5 A_d (by rw [hr]; simp) own_b6_4 rfl ?_
  refine WP.if_ne K 10 8 own_b6_5 (by decide) rfl (fun c5 => ?_) (fun c5 => ?_)
  · skip
    refine WP.dconst0 K 11 own_b6_10 rfl ?_
    refine WP.dstoreN K 12 [.val (.ref o), .val (.double FP.dconst0), .second, .unset, .unset] own_b6_11 rfl rfl ?_
    refine WP.iconst K (0 : Int32) 13 own_b6_12 rfl rfl ?_
    refine WP.istoreN K 14 [.val (.ref o), .val (.double FP.dconst0), .second, .val (.int (0 : Int32)), .unset] own_b6_13 rfl rfl ?_
    refine WP.iconst K (1 : Int32) 15 own_b6_14 rfl rfl ?_
    refine WP.istore K 17 [.val (.ref o), .val (.double FP.dconst0), .second, .val (.int (0 : Int32)), .val (.int (1 : Int32))] own_b6_15 rfl rfl ?_
    have loop : ∀ (m n : Nat) (i t : Int32) (acc : UInt64), n + m = xs.length → i.toInt = ((n + 1 : Nat) : Int) → 0 ≤ t.toInt → t.toInt ≤ n → NoNaN64 acc → own_sb (own_bs (xs.drop n)) i t acc = own_sb (own_bs xs) 1 0 FP.dconst0 →
        WP k h 0 0 17 [.val (.ref o), .val (.double acc), .second, .val (.int t), .val (.int i)] [] := by
      intro m
      induction m with
      | zero =>
        intro n i t acc hm hi ht0 ht1 hacc hs
        rw [show n = xs.length by omega, List.drop_length] at hs
        have hs : acc = own_sb (own_bs xs) 1 0 FP.dconst0 := hs
        obtain ⟨r1, r2⟩ := own_rd rr (by omega) (by omega)
        have hnn := ddiv_out hacc r1 r2
        refine WP.iload K 19 own_b6_17 rfl rfl ?_
        refine WP.aloadN K 20 own_b6_19 rfl rfl rfl ?_
        refine WP.getfield K (host := "") 23 (Or.inl (hw _ (List.mem_of_getElem? (i := 22) rfl))) Via.refl Fg own_b6_20 rfl ?_
        refine WP.arraylength K z 24 A_g (by rw [hz]; simp) own_b6_23 rfl ?_
        refine WP.icmp_gt K 57 27 own_b6_24 (by decide) rfl (fun c24 => ?_) (fun c24 => ?_)
        · skip
          refine WP.dloadN K 58 own_b6_57 rfl rfl ?_
          refine WP.aloadN K 59 own_b6_58 rfl rfl rfl ?_
          refine WP.getfield K (host := "") 62 (Or.inl (hw _ (List.mem_of_getElem? (i := 24) rfl))) Via.refl Fd own_b6_59 rfl ?_
          refine WP.arraylength K rr 63 A_d (by rw [hr]; simp) own_b6_62 rfl ?_
          refine WP.i2d K 64 own_b6_63 rfl ?_
          refine WP.ddiv K 65 own_b6_64 rfl hnn ?_
          refine WP.dret K rfl own_b6_65 ?_ (by decide) (by decide)
          rw [hs] at hnn ⊢
          exact ⟨_, rfl, Or.inr ⟨by omega, rfl, hnn⟩, rfl⟩
        · skip
          exfalso; omega
      | succ m ih =>
        intro n i t acc hm hi ht0 ht1 hacc hs
        refine WP.iload K 19 own_b6_17 rfl rfl ?_
        refine WP.aloadN K 20 own_b6_19 rfl rfl rfl ?_
        refine WP.getfield K (host := "") 23 (Or.inl (hw _ (List.mem_of_getElem? (i := 22) rfl))) Via.refl Fg own_b6_20 rfl ?_
        refine WP.arraylength K z 24 A_g (by rw [hz]; simp) own_b6_23 rfl ?_
        refine WP.icmp_gt K 57 27 own_b6_24 (by decide) rfl (fun c24 => ?_) (fun c24 => ?_)
        · skip
          exfalso; omega
        · skip
          obtain ⟨v, hv⟩ : ∃ v, xs[n]? = some v := ⟨_, List.getElem?_eq_getElem (by omega)⟩
          have ei : (i - (1 : Int32)).toInt = (n : Nat) := by rw [i32_sub (by omega) (by omega)]; omega
          rw [own_drop hv] at hs
          have hs : (if decide (0 < v.toInt) = true then own_sb (own_bs (xs.drop (n + 1))) (i + 1) (t + 1) (FP.dadd acc (FP.ddiv (FP.i2d (t + 1)) (FP.i2d i))) else own_sb (own_bs (xs.drop (n + 1))) (i + 1) t acc) = _ := hs
          refine WP.aloadN K 28 own_b6_27 rfl rfl rfl ?_
          refine WP.getfield K (host := "") 31 (Or.inl (hw _ (List.mem_of_getElem? (i := 22) rfl))) Via.refl Fg own_b6_28 rfl ?_
          refine WP.iload K 33 own_b6_31 rfl rfl ?_
          refine WP.iconst K (1 : Int32) 34 own_b6_33 rfl rfl ?_
          refine WP.isub K 35 own_b6_34 rfl ?_
          refine WP.iaload K 36 n A_g ei hv own_b6_35 rfl ?_
          refine WP.if_le K 51 39 own_b6_36 (by decide) rfl (fun c36 => ?_) (fun c36 => ?_)
          · skip
            rw [if_neg (by simp; omega)] at hs
            refine WP.iinc K (1 : Int32) 54 [.val (.ref o), .val (.double acc), .second, .val (.int t), .val (.int (i + (1 : Int32)))] own_b6_51 rfl rfl rfl rfl ?_
            refine WP.goto K 17 own_b6_54 (by decide) ?_
            exact ih (n + 1) _ _ _ (by omega) (inc32 hi (by omega)) ht0 (by omega) hacc hs
          · skip
            rw [if_pos (by simp; omega)] at hs
            have et : (t + (1 : Int32)).toInt = t.toInt + 1 := by rw [i32_add (by omega) (by omega)]; omega
            have hq := own_q (t + (1 : Int32)) i (by omega) (by omega) (by omega)
            have hac2 := dadd_out hacc hq
            refine WP.iinc K (1 : Int32) 42 [.val (.ref o), .val (.double acc), .second, .val (.int (t + (1 : Int32))), .val (.int i)] own_b6_39 rfl rfl rfl rfl ?_
            refine WP.dloadN K 43 own_b6_42 rfl rfl ?_
            refine WP.iloadN K 44 own_b6_43 rfl rfl ?_
            refine WP.i2d K 45 own_b6_44 rfl ?_
            refine WP.iload K 47 own_b6_45 rfl rfl ?_
            refine WP.i2d K 48 own_b6_47 rfl ?_
            refine WP.ddiv K 49 own_b6_48 rfl hq.noNaN ?_
            refine WP.dadd K 50 own_b6_49 rfl hac2 ?_
            refine WP.dstoreN K 51 [.val (.ref o), .val (.double (FP.dadd acc (FP.ddiv (FP.i2d (t + (1 : Int32))) (FP.i2d i)))), .second, .val (.int (t + (1 : Int32))), .val (.int i)] own_b6_50 rfl rfl ?_
            refine WP.iinc K (1 : Int32) 54 [.val (.ref o), .val (.double (FP.dadd acc (FP.ddiv (FP.i2d (t + (1 : Int32))) (FP.i2d i)))), .second, .val (.int (t + (1 : Int32))), .val (.int (i + (1 : Int32)))] own_b6_51 rfl rfl rfl rfl ?_
            refine WP.goto K 17 own_b6_54 (by decide) ?_
            exact ih (n + 1) _ _ _ (by omega) (inc32 hi (by omega)) (by omega) (by omega) hac2 hs
    exact loop xs.length 0 _ _ _ (by omega) rfl (by decide) (by decide) (by unfold NoNaN64; decide) rfl
  · skip
    refine WP.dconst0 K 9 own_b6_8 rfl ?_
    refine WP.dret K rfl own_b6_9 ?_ (by decide) (by decide)
    exact ⟨_, rfl, Or.inl ⟨by omega, rfl⟩, rfl⟩
theorem own_pf_law : plainFor x = true := by first | exact plainFor_of_name (by first | (simp [plainName, overriddenIn, x]; done) | decide +kernel) | decide +kernel
theorem own_pd_1 : parseMethodDescriptor "(IIIII)[I" = some ⟨[.int, .int, .int, .int, .int], some (.array .int)⟩ := by decide +kernel
theorem own_pd_2 : parseMethodDescriptor "(I)[I" = some ⟨[.int], some (.array .int)⟩ := by decide +kernel
theorem own_pd_3 : parseMethodDescriptor "([I[I)V" = some ⟨[(.array .int), (.array .int)], none⟩ := by decide +kernel
theorem own_pd_4 : parseMethodDescriptor "()D" = some ⟨[], some .double⟩ := by decide +kernel
set_option maxRecDepth 65536 in
set_option maxHeartbeats 40000000 in
theorem own_law (l : Launch) (Z : State) (a0 : Array Value) (hw : ∀ d ∈ tables_1, d.before a0 Z = true) (n0 : Nat) (h : Heap) (g1 g2 g3 g4 sh : Int32) (Z0 : n0 ≤ h.size) :
    Con l Z x code maxLocals ret room_1 n0 #[(.int g1), (.int g2), (.int g3), (.int g4), (.int sh)] h (R1 fun r h' => r = .int 1) := by
  refine Con.of (ls := [.val (.int g1), .val (.int g2), .val (.int g3), .val (.int g4), .val (.int sh), .unset, .unset, .unset, .unset, .unset, .unset, .unset, .unset, .unset, .unset, .unset, .unset, .unset, .unset, .unset, .unset, .unset, .unset]) own_pf_law (fun m => by first | (simp [entryFrame, mkF, argsToLocals, Value.category, maxLocals]; done) | rfl) fun k K => ?_
  have k_0 : (0 : Int32).toInt = 0 := rfl
  have k_1 : (1 : Int32).toInt = 1 := rfl
  have k_2 : (2 : Int32).toInt = 2 := rfl
  have k_3 : (3 : Int32).toInt = 3 := rfl
  have k_4 : (4 : Int32).toInt = 4 := rfl
  have k_5 : (5 : Int32).toInt = 5 := rfl
  have k_6 : (6 : Int32).toInt = 6 := rfl
  have k_7 : (7 : Int32).toInt = 7 := rfl
  refine WP.iload K 2 at_0 rfl rfl ?_
  refine WP.bipush K (7 : Int32) 4 at_2 rfl rfl ?_
  refine WP.iand K 5 at_4 rfl ?_
  refine WP.iconst K (5 : Int32) 6 at_5 rfl rfl ?_
  refine WP.irem K 7 at_6 rfl (by decide) ?_
  refine WP.istore K 9 [.val (.int g1), .val (.int g2), .val (.int g3), .val (.int g4), .val (.int sh), .val (.int ((sh &&& (7 : Int32)) % (5 : Int32))), .unset, .unset, .unset, .unset, .unset, .unset, .unset, .unset, .unset, .unset, .unset, .unset, .unset, .unset, .unset, .unset, .unset] at_7 rfl rfl ?_
  refine WP.iload K 11 at_9 rfl rfl ?_
  refine WP.iconst K (3 : Int32) 12 at_11 rfl rfl ?_
  refine WP.iushr K 13 at_12 rfl ?_
  refine WP.bipush K (7 : Int32) 15 at_13 rfl rfl ?_
  refine WP.iand K 16 at_15 rfl ?_
  refine WP.bipush K (6 : Int32) 18 at_16 rfl rfl ?_
  refine WP.irem K 19 at_18 rfl (by decide) ?_
  refine WP.istore K 21 [.val (.int g1), .val (.int g2), .val (.int g3), .val (.int g4), .val (.int sh), .val (.int ((sh &&& (7 : Int32)) % (5 : Int32))), .val (.int (((XT.ushr sh (3 : Int32)) &&& (7 : Int32)) % (6 : Int32))), .unset, .unset, .unset, .unset, .unset, .unset, .unset, .unset, .unset, .unset, .unset, .unset, .unset, .unset, .unset, .unset] at_19 rfl rfl ?_
  have a1 := c_and sh (7 : Int32) (by decide)
  have a2 := c_iremV (sh &&& (7 : Int32)) (5 : Int32)
  have a3 := c_and (XT.ushr sh (3 : Int32)) (7 : Int32) (by decide)
  have a4 := c_iremV ((XT.ushr sh (3 : Int32)) &&& (7 : Int32)) (6 : Int32)
  generalize ((sh &&& (7 : Int32)) % (5 : Int32)) = nn at a2 ⊢
  generalize (((XT.ushr sh (3 : Int32)) &&& (7 : Int32)) % (6 : Int32)) = rr at a4 ⊢
  obtain ⟨n, hnn⟩ : ∃ n : Nat, nn.toInt = (n : Nat) := ⟨nn.toInt.toNat, by omega⟩
  obtain ⟨rn, hrr⟩ : ∃ n : Nat, rr.toInt = (n : Nat) := ⟨rr.toInt.toNat, by omega⟩
  have hn4 : n ≤ 4 := by omega
  have hr5 : rn ≤ 5 := by omega
  refine WP.iload K 23 at_21 rfl rfl ?_
  refine WP.iloadN K 24 at_23 rfl rfl ?_
  refine WP.iloadN K 25 at_24 rfl rfl ?_
  refine WP.iloadN K 26 at_25 rfl rfl ?_
  refine WP.iloadN K 27 at_26 rfl rfl ?_
  refine WP.callS K 30 1 4 0 [(.int nn), (.int g1), (.int g2), (.int g3), (.int g4)] [] (hw _ (List.mem_of_getElem? (i := 0) rfl)) (hw _ (List.mem_of_getElem? (i := 1) rfl)) (hw _ (List.mem_of_getElem? (i := 2) rfl)) (hw _ (List.mem_of_getElem? (i := 3) rfl)) (by decide) own_pd_1 rfl rfl rfl (by decide) (by decide) (Nat.le_of_eq rfl) rfl at_27 rfl rfl rfl (by decide) (by decide) (own_gains l Z a0 hw n0 h nn g1 g2 g3 g4 n hnn hn4 Z0) (r1_next fun r3 h1 q2 => ?_)
  obtain ⟨K_ga, ga, rfl, n0_ga, sz_ga, A_ga⟩ := q2
  have Z0 : n0 ≤ (h1).size := Nat.le_trans Z0 K_ga.1
  refine WP.astore K 32 [.val (.int g1), .val (.int g2), .val (.int g3), .val (.int g4), .val (.int sh), .val (.int nn), .val (.int rr), .val (.ref ga), .unset, .unset, .unset, .unset, .unset, .unset, .unset, .unset, .unset, .unset, .unset, .unset, .unset, .unset, .unset] at_30 rfl rfl rfl ?_
  refine WP.iload K 34 at_32 rfl rfl ?_
  refine WP.callS K 37 2 9 0 [(.int rr)] [] (hw _ (List.mem_of_getElem? (i := 5) rfl)) (hw _ (List.mem_of_getElem? (i := 6) rfl)) (hw _ (List.mem_of_getElem? (i := 2) rfl)) (hw _ (List.mem_of_getElem? (i := 7) rfl)) (by decide) own_pd_2 rfl rfl rfl (by decide) (by decide) (Nat.le_of_eq rfl) rfl at_34 rfl rfl rfl (by decide) (by decide) (own_ideal l Z a0 hw n0 h1 rr rn hrr hr5 Z0) (r1_next fun r6 h4 q5 => ?_)
  obtain ⟨K_ia, ia, rfl, n0_ia, sz_ia, A_ia⟩ := q5
  have l_ga_ia : @LT.lt Nat _ ga ia := Nat.lt_of_lt_of_le (ArV.lt A_ga) sz_ia
  have Z0 : n0 ≤ (h4).size := Nat.le_trans Z0 K_ia.1
  have A_ga := A_ga.keep K_ia (nm0 (by omega))
  refine WP.astore K 39 [.val (.int g1), .val (.int g2), .val (.int g3), .val (.int g4), .val (.int sh), .val (.int nn), .val (.int rr), .val (.ref ga), .val (.ref ia), .unset, .unset, .unset, .unset, .unset, .unset, .unset, .unset, .unset, .unset, .unset, .unset, .unset, .unset] at_37 rfl rfl rfl ?_
  refine WP.new K 42 3 11 (hw _ (List.mem_of_getElem? (i := 8) rfl)) (hw _ (List.mem_of_getElem? (i := 9) rfl)) (hw _ (List.mem_of_getElem? (i := 10) rfl)) at_39 rfl rfl rfl (by decide) (by decide) (fun h7 jo z_jo E8 X_jo D9 => ?_)
  have l_ga_jo : @LT.lt Nat _ ga jo := z_jo ▸ A_ga.lt
  have l_ia_jo : @LT.lt Nat _ ia jo := z_jo ▸ A_ia.lt
  have n0_jo : @LE.le Nat _ n0 jo := z_jo ▸ Z0
  have Z0 : n0 ≤ (h7).size := Nat.le_trans Z0 E8.1
  have A_ga := A_ga.ext E8
  have A_ia := A_ia.ext E8
  have F_gains_jo : Fld Z h7 jo "com/example/sorgu/sorgu/eval/JudgedRanking" "gains" "[I" .null := D9 (Or.inr (hw _ (List.mem_of_getElem? (i := 23) rfl))) (ty := (.array .int)) (by decide)
  have F_idealGains_jo : Fld Z h7 jo "com/example/sorgu/sorgu/eval/JudgedRanking" "idealGains" "[I" .null := D9 (Or.inr (hw _ (List.mem_of_getElem? (i := 25) rfl))) (ty := (.array .int)) (by decide)
  refine WP.dup K 43 at_42 rfl rfl ?_
  refine WP.aload K 45 at_43 rfl rfl rfl ?_
  refine WP.aload K 47 at_45 rfl rfl rfl ?_
  refine WP.callI K (a := jo) 50 3 11 1 [(.ref ga), (.ref ia)] [(.ref jo)] (hw _ (List.mem_of_getElem? (i := 11) rfl)) (hw _ (List.mem_of_getElem? (i := 12) rfl)) (hw _ (List.mem_of_getElem? (i := 10) rfl)) (hw _ (List.mem_of_getElem? (i := 13) rfl)) rfl (by decide) own_pd_3 rfl rfl rfl (by decide) (by decide) (Nat.le_of_eq rfl) rfl at_47 rfl rfl rfl (by decide) (by decide) (own_init l Z a0 hw n0 h7 jo ga ia X_jo _ _ F_gains_jo F_idealGains_jo n0_jo) (r0_next fun h10 q11 => ?_)
  obtain ⟨Kc, Fg2, Fd2⟩ := q11
  have Z0 : n0 ≤ (h10).size := Nat.le_trans Z0 Kc.1
  have A_ga := A_ga.keep Kc (nm1 (by omega))
  have A_ia := A_ia.keep Kc (nm1 (by omega))
  have X_jo := X_jo.keep Kc
  refine WP.callV K (a := jo) (C := "com/example/sorgu/sorgu/eval/JudgedRanking") 53 3 11 0 [] [] (hw _ (List.mem_of_getElem? (i := 26) rfl)) (hw _ (List.mem_of_getElem? (i := 27) rfl)) rfl (hw _ (List.mem_of_getElem? (i := 29) rfl)) (hw _ (List.mem_of_getElem? (i := 28) rfl)) (hw _ (List.mem_of_getElem? (i := 10) rfl)) (hw _ (List.mem_of_getElem? (i := 30) rfl)) (by decide) own_pd_4 rfl rfl rfl (by decide) (by decide) (Nat.le_of_eq rfl) rfl at_50 rfl rfl rfl (by decide) (by decide) X_jo (own_avg l Z a0 hw n0 h10 jo ga ia _ _ rr Fg2 Fd2 A_ga A_ia (by simp; omega) (by rw [hrr]; simp) (by simp; omega)) (r1_next fun r15 h13 q14 => ?_)
  obtain ⟨hav, rfl⟩ := q14
  obtain ⟨gt, rfl⟩ : ∃ gt, r15 = .double gt := by rcases hav with ⟨-, q⟩ | ⟨-, q, -⟩ <;> exact ⟨_, q⟩
  refine WP.dstore K 55 [.val (.int g1), .val (.int g2), .val (.int g3), .val (.int g4), .val (.int sh), .val (.int nn), .val (.int rr), .val (.ref ga), .val (.ref ia), .val (.double gt), .second, .unset, .unset, .unset, .unset, .unset, .unset, .unset, .unset, .unset, .unset, .unset, .unset] at_53 rfl rfl ?_
  rw [own_take g1 g2 g3 g4 n hn4] at hav
  have J123 : ∀ (r1 r2 r3 r4 : Int32), ((r1 = 1 ∧ (1 ≤ n ∧ 0 < g1.toInt)) ∨ (r1 = 0 ∧ ¬ (1 ≤ n ∧ 0 < g1.toInt))) → ((r2 = 1 ∧ (2 ≤ n ∧ 0 < g2.toInt)) ∨ (r2 = 0 ∧ ¬ (2 ≤ n ∧ 0 < g2.toInt))) → ((r3 = 1 ∧ (3 ≤ n ∧ 0 < g3.toInt)) ∨ (r3 = 0 ∧ ¬ (3 ≤ n ∧ 0 < g3.toInt))) → ((r4 = 1 ∧ (4 ≤ n ∧ 0 < g4.toInt)) ∨ (r4 = 0 ∧ ¬ (4 ≤ n ∧ 0 < g4.toInt))) → WP k h10 3 11 123 [.val (.int g1), .val (.int g2), .val (.int g3), .val (.int g4), .val (.int sh), .val (.int nn), .val (.int rr), .val (.ref ga), .val (.ref ia), .val (.double gt), .second, .val (.int r1), .val (.int r2), .val (.int r3), .val (.int r4), .unset, .unset, .unset, .unset, .unset, .unset, .unset, .unset] [] := by
    intro r1 r2 r3 r4 q1 q2 q3 q4
    have J249 : ∀ (c15 c16 c17 c18 : Int32) (sv : UInt64), sv = own_sb [decide (1 ≤ n ∧ 0 < g1.toInt), decide (2 ≤ n ∧ 0 < g2.toInt), decide (3 ≤ n ∧ 0 < g3.toInt), decide (4 ≤ n ∧ 0 < g4.toInt)] 1 0 FP.dconst0 → WP k h10 3 11 249 [.val (.int g1), .val (.int g2), .val (.int g3), .val (.int g4), .val (.int sh), .val (.int nn), .val (.int rr), .val (.ref ga), .val (.ref ia), .val (.double gt), .second, .val (.int r1), .val (.int r2), .val (.int r3), .val (.int r4), .val (.int c15), .val (.int c16), .val (.int c17), .val (.int c18), .val (.double sv), .second, .unset, .unset] [] := by
      intro c15 c16 c17 c18 sv hsv
      rw [← hsv] at hav
      refine WP.iload K 251 at_249 rfl rfl ?_
      refine WP.if_ne K 258 254 at_251 (by decide) rfl (fun c251 => ?_) (fun c251 => ?_)
      · skip
        obtain ⟨hgt, hnn3⟩ : gt = FP.ddiv sv (FP.i2d rr) ∧ NoNaN64 (FP.ddiv sv (FP.i2d rr)) := by
          rcases hav with ⟨q, -⟩ | ⟨-, q, q2⟩
          · exact absurd q c251
          · exact ⟨by cases q; rfl, q2⟩
        have hcmp : cmpValue (FP.dcmp gt (FP.ddiv sv (FP.i2d rr))) .l = 0 := by rw [hgt]; exact dcmpV_self hnn3 .l
        refine WP.dload K 260 at_258 rfl rfl ?_
        refine WP.iload K 262 at_260 rfl rfl ?_
        refine WP.i2d K 263 at_262 rfl ?_
        refine WP.ddiv K 264 at_263 rfl hnn3 ?_
        refine WP.dstore K 266 [.val (.int g1), .val (.int g2), .val (.int g3), .val (.int g4), .val (.int sh), .val (.int nn), .val (.int rr), .val (.ref ga), .val (.ref ia), .val (.double gt), .second, .val (.int r1), .val (.int r2), .val (.int r3), .val (.int r4), .val (.int c15), .val (.int c16), .val (.int c17), .val (.int c18), .val (.double sv), .second, .val (.double (FP.ddiv sv (FP.i2d rr))), .second] at_264 rfl rfl ?_
        refine WP.dload K 268 at_266 rfl rfl ?_
        refine WP.dload K 270 at_268 rfl rfl ?_
        refine WP.dcmpl K 271 at_270 rfl ?_
        refine WP.if_ne K 278 274 at_271 (by decide) rfl (fun c271 => ?_) (fun c271 => ?_)
        · skip
          exact absurd (by rw [hcmp]; rfl) c271
        · skip
          refine WP.iconst K (1 : Int32) 275 at_274 rfl rfl ?_
          refine WP.goto K 279 at_275 (by decide) ?_
          refine WP.iret K rfl (Or.inr (Or.inl rfl)) rfl at_279 ?_ (by decide) (by decide)
          exact ⟨_, rfl, rfl⟩
      · skip
        have hgt : gt = FP.dconst0 := by
          rcases hav with ⟨-, q⟩ | ⟨q, -⟩
          · cases q; rfl
          · exact absurd c251 q
        have hcmp : cmpValue (FP.dcmp gt FP.dconst0) .l = 0 := by rw [hgt]; decide +kernel
        refine WP.dconst0 K 255 at_254 rfl ?_
        refine WP.goto K 264 at_255 (by decide) ?_
        refine WP.dstore K 266 [.val (.int g1), .val (.int g2), .val (.int g3), .val (.int g4), .val (.int sh), .val (.int nn), .val (.int rr), .val (.ref ga), .val (.ref ia), .val (.double gt), .second, .val (.int r1), .val (.int r2), .val (.int r3), .val (.int r4), .val (.int c15), .val (.int c16), .val (.int c17), .val (.int c18), .val (.double sv), .second, .val (.double FP.dconst0), .second] at_264 rfl rfl ?_
        refine WP.dload K 268 at_266 rfl rfl ?_
        refine WP.dload K 270 at_268 rfl rfl ?_
        refine WP.dcmpl K 271 at_270 rfl ?_
        refine WP.if_ne K 278 274 at_271 (by decide) rfl (fun c271 => ?_) (fun c271 => ?_)
        · skip
          exact absurd (by rw [hcmp]; rfl) c271
        · skip
          refine WP.iconst K (1 : Int32) 275 at_274 rfl rfl ?_
          refine WP.goto K 279 at_275 (by decide) ?_
          refine WP.iret K rfl (Or.inr (Or.inl rfl)) rfl at_279 ?_ (by decide) (by decide)
          exact ⟨_, rfl, rfl⟩
    rcases q1 with ⟨rfl, d1⟩ | ⟨rfl, d1⟩ <;> rcases q2 with ⟨rfl, d2⟩ | ⟨rfl, d2⟩ <;> rcases q3 with ⟨rfl, d3⟩ | ⟨rfl, d3⟩ <;> rcases q4 with ⟨rfl, d4⟩ | ⟨rfl, d4⟩
    · skip
      refine WP.iload K 125 at_123 rfl rfl ?_
      refine WP.if_eq K 132 128 at_125 (by decide) rfl (fun c125 => ?_) (fun c125 => ?_)
      · skip
        exact absurd c125 (by decide)
      · skip
        refine WP.iconst K (1 : Int32) 129 at_128 rfl rfl ?_
        refine WP.goto K 133 at_129 (by decide) ?_
        refine WP.istore K 135 [.val (.int g1), .val (.int g2), .val (.int g3), .val (.int g4), .val (.int sh), .val (.int nn), .val (.int rr), .val (.ref ga), .val (.ref ia), .val (.double gt), .second, .val (.int (1 : Int32)), .val (.int (1 : Int32)), .val (.int (1 : Int32)), .val (.int (1 : Int32)), .val (.int (1 : Int32)), .unset, .unset, .unset, .unset, .unset, .unset, .unset] at_133 rfl rfl ?_
        refine WP.iload K 137 at_135 rfl rfl ?_
        refine WP.iload K 139 at_137 rfl rfl ?_
        refine WP.if_eq K 146 142 at_139 (by decide) rfl (fun c139 => ?_) (fun c139 => ?_)
        · skip
          exact absurd c139 (by decide)
        · skip
          refine WP.iconst K (1 : Int32) 143 at_142 rfl rfl ?_
          refine WP.goto K 147 at_143 (by decide) ?_
          refine WP.iadd K 148 at_147 rfl ?_
          refine WP.istore K 150 [.val (.int g1), .val (.int g2), .val (.int g3), .val (.int g4), .val (.int sh), .val (.int nn), .val (.int rr), .val (.ref ga), .val (.ref ia), .val (.double gt), .second, .val (.int (1 : Int32)), .val (.int (1 : Int32)), .val (.int (1 : Int32)), .val (.int (1 : Int32)), .val (.int (1 : Int32)), .val (.int ((1 : Int32) + (1 : Int32))), .unset, .unset, .unset, .unset, .unset, .unset] at_148 rfl rfl ?_
          refine WP.iload K 152 at_150 rfl rfl ?_
          refine WP.iload K 154 at_152 rfl rfl ?_
          refine WP.if_eq K 161 157 at_154 (by decide) rfl (fun c154 => ?_) (fun c154 => ?_)
          · skip
            exact absurd c154 (by decide)
          · skip
            refine WP.iconst K (1 : Int32) 158 at_157 rfl rfl ?_
            refine WP.goto K 162 at_158 (by decide) ?_
            refine WP.iadd K 163 at_162 rfl ?_
            refine WP.istore K 165 [.val (.int g1), .val (.int g2), .val (.int g3), .val (.int g4), .val (.int sh), .val (.int nn), .val (.int rr), .val (.ref ga), .val (.ref ia), .val (.double gt), .second, .val (.int (1 : Int32)), .val (.int (1 : Int32)), .val (.int (1 : Int32)), .val (.int (1 : Int32)), .val (.int (1 : Int32)), .val (.int ((1 : Int32) + (1 : Int32))), .val (.int (((1 : Int32) + (1 : Int32)) + (1 : Int32))), .unset, .unset, .unset, .unset, .unset] at_163 rfl rfl ?_
            refine WP.iload K 167 at_165 rfl rfl ?_
            refine WP.iload K 169 at_167 rfl rfl ?_
            refine WP.if_eq K 176 172 at_169 (by decide) rfl (fun c169 => ?_) (fun c169 => ?_)
            · skip
              exact absurd c169 (by decide)
            · skip
              refine WP.iconst K (1 : Int32) 173 at_172 rfl rfl ?_
              refine WP.goto K 177 at_173 (by decide) ?_
              refine WP.iadd K 178 at_177 rfl ?_
              refine WP.istore K 180 [.val (.int g1), .val (.int g2), .val (.int g3), .val (.int g4), .val (.int sh), .val (.int nn), .val (.int rr), .val (.ref ga), .val (.ref ia), .val (.double gt), .second, .val (.int (1 : Int32)), .val (.int (1 : Int32)), .val (.int (1 : Int32)), .val (.int (1 : Int32)), .val (.int (1 : Int32)), .val (.int ((1 : Int32) + (1 : Int32))), .val (.int (((1 : Int32) + (1 : Int32)) + (1 : Int32))), .val (.int ((((1 : Int32) + (1 : Int32)) + (1 : Int32)) + (1 : Int32))), .unset, .unset, .unset, .unset] at_178 rfl rfl ?_
              refine WP.dconst0 K 181 at_180 rfl ?_
              refine WP.dstore K 183 [.val (.int g1), .val (.int g2), .val (.int g3), .val (.int g4), .val (.int sh), .val (.int nn), .val (.int rr), .val (.ref ga), .val (.ref ia), .val (.double gt), .second, .val (.int (1 : Int32)), .val (.int (1 : Int32)), .val (.int (1 : Int32)), .val (.int (1 : Int32)), .val (.int (1 : Int32)), .val (.int ((1 : Int32) + (1 : Int32))), .val (.int (((1 : Int32) + (1 : Int32)) + (1 : Int32))), .val (.int ((((1 : Int32) + (1 : Int32)) + (1 : Int32)) + (1 : Int32))), .val (.double FP.dconst0), .second, .unset, .unset] at_181 rfl rfl ?_
              refine WP.iload K 185 at_183 rfl rfl ?_
              refine WP.if_eq K 198 188 at_185 (by decide) rfl (fun c185 => ?_) (fun c185 => ?_)
              · skip
                exact absurd c185 (by decide)
              · skip
                refine WP.dload K 190 at_188 rfl rfl ?_
                refine WP.iload K 192 at_190 rfl rfl ?_
                refine WP.i2d K 193 at_192 rfl ?_
                refine WP.dconst1 K 194 at_193 rfl ?_
                refine WP.ddiv K 195 at_194 rfl (by unfold NoNaN64; decide +kernel) ?_
                refine WP.dadd K 196 at_195 rfl (by unfold NoNaN64; decide +kernel) ?_
                refine WP.dstore K 198 [.val (.int g1), .val (.int g2), .val (.int g3), .val (.int g4), .val (.int sh), .val (.int nn), .val (.int rr), .val (.ref ga), .val (.ref ia), .val (.double gt), .second, .val (.int (1 : Int32)), .val (.int (1 : Int32)), .val (.int (1 : Int32)), .val (.int (1 : Int32)), .val (.int (1 : Int32)), .val (.int ((1 : Int32) + (1 : Int32))), .val (.int (((1 : Int32) + (1 : Int32)) + (1 : Int32))), .val (.int ((((1 : Int32) + (1 : Int32)) + (1 : Int32)) + (1 : Int32))), .val (.double (FP.dadd FP.dconst0 (FP.ddiv (FP.i2d (1 : Int32)) FP.dconst1))), .second, .unset, .unset] at_196 rfl rfl ?_
                refine WP.iload K 200 at_198 rfl rfl ?_
                refine WP.if_eq K 215 203 at_200 (by decide) rfl (fun c200 => ?_) (fun c200 => ?_)
                · skip
                  exact absurd c200 (by decide)
                · skip
                  refine WP.dload K 205 at_203 rfl rfl ?_
                  refine WP.iload K 207 at_205 rfl rfl ?_
                  refine WP.i2d K 208 at_207 rfl ?_
                  refine WP.ldc2D K (v := (4611686018427387904 : UInt64)) 211 (hw _ (List.mem_of_getElem? (i := 31) rfl)) at_208 rfl ?_
                  refine WP.ddiv K 212 at_211 rfl (by unfold NoNaN64; decide +kernel) ?_
                  refine WP.dadd K 213 at_212 rfl (by unfold NoNaN64; decide +kernel) ?_
                  refine WP.dstore K 215 [.val (.int g1), .val (.int g2), .val (.int g3), .val (.int g4), .val (.int sh), .val (.int nn), .val (.int rr), .val (.ref ga), .val (.ref ia), .val (.double gt), .second, .val (.int (1 : Int32)), .val (.int (1 : Int32)), .val (.int (1 : Int32)), .val (.int (1 : Int32)), .val (.int (1 : Int32)), .val (.int ((1 : Int32) + (1 : Int32))), .val (.int (((1 : Int32) + (1 : Int32)) + (1 : Int32))), .val (.int ((((1 : Int32) + (1 : Int32)) + (1 : Int32)) + (1 : Int32))), .val (.double (FP.dadd (FP.dadd FP.dconst0 (FP.ddiv (FP.i2d (1 : Int32)) FP.dconst1)) (FP.ddiv (FP.i2d ((1 : Int32) + (1 : Int32))) (4611686018427387904 : UInt64)))), .second, .unset, .unset] at_213 rfl rfl ?_
                  refine WP.iload K 217 at_215 rfl rfl ?_
                  refine WP.if_eq K 232 220 at_217 (by decide) rfl (fun c217 => ?_) (fun c217 => ?_)
                  · skip
                    exact absurd c217 (by decide)
                  · skip
                    refine WP.dload K 222 at_220 rfl rfl ?_
                    refine WP.iload K 224 at_222 rfl rfl ?_
                    refine WP.i2d K 225 at_224 rfl ?_
                    refine WP.ldc2D K (v := (4613937818241073152 : UInt64)) 228 (hw _ (List.mem_of_getElem? (i := 32) rfl)) at_225 rfl ?_
                    refine WP.ddiv K 229 at_228 rfl (by unfold NoNaN64; decide +kernel) ?_
                    refine WP.dadd K 230 at_229 rfl (by unfold NoNaN64; decide +kernel) ?_
                    refine WP.dstore K 232 [.val (.int g1), .val (.int g2), .val (.int g3), .val (.int g4), .val (.int sh), .val (.int nn), .val (.int rr), .val (.ref ga), .val (.ref ia), .val (.double gt), .second, .val (.int (1 : Int32)), .val (.int (1 : Int32)), .val (.int (1 : Int32)), .val (.int (1 : Int32)), .val (.int (1 : Int32)), .val (.int ((1 : Int32) + (1 : Int32))), .val (.int (((1 : Int32) + (1 : Int32)) + (1 : Int32))), .val (.int ((((1 : Int32) + (1 : Int32)) + (1 : Int32)) + (1 : Int32))), .val (.double (FP.dadd (FP.dadd (FP.dadd FP.dconst0 (FP.ddiv (FP.i2d (1 : Int32)) FP.dconst1)) (FP.ddiv (FP.i2d ((1 : Int32) + (1 : Int32))) (4611686018427387904 : UInt64))) (FP.ddiv (FP.i2d (((1 : Int32) + (1 : Int32)) + (1 : Int32))) (4613937818241073152 : UInt64)))), .second, .unset, .unset] at_230 rfl rfl ?_
                    refine WP.iload K 234 at_232 rfl rfl ?_
                    refine WP.if_eq K 249 237 at_234 (by decide) rfl (fun c234 => ?_) (fun c234 => ?_)
                    · skip
                      exact absurd c234 (by decide)
                    · skip
                      refine WP.dload K 239 at_237 rfl rfl ?_
                      refine WP.iload K 241 at_239 rfl rfl ?_
                      refine WP.i2d K 242 at_241 rfl ?_
                      refine WP.ldc2D K (v := (4616189618054758400 : UInt64)) 245 (hw _ (List.mem_of_getElem? (i := 33) rfl)) at_242 rfl ?_
                      refine WP.ddiv K 246 at_245 rfl (by unfold NoNaN64; decide +kernel) ?_
                      refine WP.dadd K 247 at_246 rfl (by unfold NoNaN64; decide +kernel) ?_
                      refine WP.dstore K 249 [.val (.int g1), .val (.int g2), .val (.int g3), .val (.int g4), .val (.int sh), .val (.int nn), .val (.int rr), .val (.ref ga), .val (.ref ia), .val (.double gt), .second, .val (.int (1 : Int32)), .val (.int (1 : Int32)), .val (.int (1 : Int32)), .val (.int (1 : Int32)), .val (.int (1 : Int32)), .val (.int ((1 : Int32) + (1 : Int32))), .val (.int (((1 : Int32) + (1 : Int32)) + (1 : Int32))), .val (.int ((((1 : Int32) + (1 : Int32)) + (1 : Int32)) + (1 : Int32))), .val (.double (FP.dadd (FP.dadd (FP.dadd (FP.dadd FP.dconst0 (FP.ddiv (FP.i2d (1 : Int32)) FP.dconst1)) (FP.ddiv (FP.i2d ((1 : Int32) + (1 : Int32))) (4611686018427387904 : UInt64))) (FP.ddiv (FP.i2d (((1 : Int32) + (1 : Int32)) + (1 : Int32))) (4613937818241073152 : UInt64))) (FP.ddiv (FP.i2d ((((1 : Int32) + (1 : Int32)) + (1 : Int32)) + (1 : Int32))) (4616189618054758400 : UInt64)))), .second, .unset, .unset] at_247 rfl rfl ?_
                      exact J249 _ _ _ _ _ (by rw [show decide (1 ≤ n ∧ 0 < g1.toInt) = true from decide_eq_true d1, show decide (2 ≤ n ∧ 0 < g2.toInt) = true from decide_eq_true d2, show decide (3 ≤ n ∧ 0 < g3.toInt) = true from decide_eq_true d3, show decide (4 ≤ n ∧ 0 < g4.toInt) = true from decide_eq_true d4]; decide +kernel)
    · skip
      refine WP.iload K 125 at_123 rfl rfl ?_
      refine WP.if_eq K 132 128 at_125 (by decide) rfl (fun c125 => ?_) (fun c125 => ?_)
      · skip
        exact absurd c125 (by decide)
      · skip
        refine WP.iconst K (1 : Int32) 129 at_128 rfl rfl ?_
        refine WP.goto K 133 at_129 (by decide) ?_
        refine WP.istore K 135 [.val (.int g1), .val (.int g2), .val (.int g3), .val (.int g4), .val (.int sh), .val (.int nn), .val (.int rr), .val (.ref ga), .val (.ref ia), .val (.double gt), .second, .val (.int (1 : Int32)), .val (.int (1 : Int32)), .val (.int (1 : Int32)), .val (.int (0 : Int32)), .val (.int (1 : Int32)), .unset, .unset, .unset, .unset, .unset, .unset, .unset] at_133 rfl rfl ?_
        refine WP.iload K 137 at_135 rfl rfl ?_
        refine WP.iload K 139 at_137 rfl rfl ?_
        refine WP.if_eq K 146 142 at_139 (by decide) rfl (fun c139 => ?_) (fun c139 => ?_)
        · skip
          exact absurd c139 (by decide)
        · skip
          refine WP.iconst K (1 : Int32) 143 at_142 rfl rfl ?_
          refine WP.goto K 147 at_143 (by decide) ?_
          refine WP.iadd K 148 at_147 rfl ?_
          refine WP.istore K 150 [.val (.int g1), .val (.int g2), .val (.int g3), .val (.int g4), .val (.int sh), .val (.int nn), .val (.int rr), .val (.ref ga), .val (.ref ia), .val (.double gt), .second, .val (.int (1 : Int32)), .val (.int (1 : Int32)), .val (.int (1 : Int32)), .val (.int (0 : Int32)), .val (.int (1 : Int32)), .val (.int ((1 : Int32) + (1 : Int32))), .unset, .unset, .unset, .unset, .unset, .unset] at_148 rfl rfl ?_
          refine WP.iload K 152 at_150 rfl rfl ?_
          refine WP.iload K 154 at_152 rfl rfl ?_
          refine WP.if_eq K 161 157 at_154 (by decide) rfl (fun c154 => ?_) (fun c154 => ?_)
          · skip
            exact absurd c154 (by decide)
          · skip
            refine WP.iconst K (1 : Int32) 158 at_157 rfl rfl ?_
            refine WP.goto K 162 at_158 (by decide) ?_
            refine WP.iadd K 163 at_162 rfl ?_
            refine WP.istore K 165 [.val (.int g1), .val (.int g2), .val (.int g3), .val (.int g4), .val (.int sh), .val (.int nn), .val (.int rr), .val (.ref ga), .val (.ref ia), .val (.double gt), .second, .val (.int (1 : Int32)), .val (.int (1 : Int32)), .val (.int (1 : Int32)), .val (.int (0 : Int32)), .val (.int (1 : Int32)), .val (.int ((1 : Int32) + (1 : Int32))), .val (.int (((1 : Int32) + (1 : Int32)) + (1 : Int32))), .unset, .unset, .unset, .unset, .unset] at_163 rfl rfl ?_
            refine WP.iload K 167 at_165 rfl rfl ?_
            refine WP.iload K 169 at_167 rfl rfl ?_
            refine WP.if_eq K 176 172 at_169 (by decide) rfl (fun c169 => ?_) (fun c169 => ?_)
            · skip
              refine WP.iconst K (0 : Int32) 177 at_176 rfl rfl ?_
              refine WP.iadd K 178 at_177 rfl ?_
              refine WP.istore K 180 [.val (.int g1), .val (.int g2), .val (.int g3), .val (.int g4), .val (.int sh), .val (.int nn), .val (.int rr), .val (.ref ga), .val (.ref ia), .val (.double gt), .second, .val (.int (1 : Int32)), .val (.int (1 : Int32)), .val (.int (1 : Int32)), .val (.int (0 : Int32)), .val (.int (1 : Int32)), .val (.int ((1 : Int32) + (1 : Int32))), .val (.int (((1 : Int32) + (1 : Int32)) + (1 : Int32))), .val (.int ((((1 : Int32) + (1 : Int32)) + (1 : Int32)) + (0 : Int32))), .unset, .unset, .unset, .unset] at_178 rfl rfl ?_
              refine WP.dconst0 K 181 at_180 rfl ?_
              refine WP.dstore K 183 [.val (.int g1), .val (.int g2), .val (.int g3), .val (.int g4), .val (.int sh), .val (.int nn), .val (.int rr), .val (.ref ga), .val (.ref ia), .val (.double gt), .second, .val (.int (1 : Int32)), .val (.int (1 : Int32)), .val (.int (1 : Int32)), .val (.int (0 : Int32)), .val (.int (1 : Int32)), .val (.int ((1 : Int32) + (1 : Int32))), .val (.int (((1 : Int32) + (1 : Int32)) + (1 : Int32))), .val (.int ((((1 : Int32) + (1 : Int32)) + (1 : Int32)) + (0 : Int32))), .val (.double FP.dconst0), .second, .unset, .unset] at_181 rfl rfl ?_
              refine WP.iload K 185 at_183 rfl rfl ?_
              refine WP.if_eq K 198 188 at_185 (by decide) rfl (fun c185 => ?_) (fun c185 => ?_)
              · skip
                exact absurd c185 (by decide)
              · skip
                refine WP.dload K 190 at_188 rfl rfl ?_
                refine WP.iload K 192 at_190 rfl rfl ?_
                refine WP.i2d K 193 at_192 rfl ?_
                refine WP.dconst1 K 194 at_193 rfl ?_
                refine WP.ddiv K 195 at_194 rfl (by unfold NoNaN64; decide +kernel) ?_
                refine WP.dadd K 196 at_195 rfl (by unfold NoNaN64; decide +kernel) ?_
                refine WP.dstore K 198 [.val (.int g1), .val (.int g2), .val (.int g3), .val (.int g4), .val (.int sh), .val (.int nn), .val (.int rr), .val (.ref ga), .val (.ref ia), .val (.double gt), .second, .val (.int (1 : Int32)), .val (.int (1 : Int32)), .val (.int (1 : Int32)), .val (.int (0 : Int32)), .val (.int (1 : Int32)), .val (.int ((1 : Int32) + (1 : Int32))), .val (.int (((1 : Int32) + (1 : Int32)) + (1 : Int32))), .val (.int ((((1 : Int32) + (1 : Int32)) + (1 : Int32)) + (0 : Int32))), .val (.double (FP.dadd FP.dconst0 (FP.ddiv (FP.i2d (1 : Int32)) FP.dconst1))), .second, .unset, .unset] at_196 rfl rfl ?_
                refine WP.iload K 200 at_198 rfl rfl ?_
                refine WP.if_eq K 215 203 at_200 (by decide) rfl (fun c200 => ?_) (fun c200 => ?_)
                · skip
                  exact absurd c200 (by decide)
                · skip
                  refine WP.dload K 205 at_203 rfl rfl ?_
                  refine WP.iload K 207 at_205 rfl rfl ?_
                  refine WP.i2d K 208 at_207 rfl ?_
                  refine WP.ldc2D K (v := (4611686018427387904 : UInt64)) 211 (hw _ (List.mem_of_getElem? (i := 31) rfl)) at_208 rfl ?_
                  refine WP.ddiv K 212 at_211 rfl (by unfold NoNaN64; decide +kernel) ?_
                  refine WP.dadd K 213 at_212 rfl (by unfold NoNaN64; decide +kernel) ?_
                  refine WP.dstore K 215 [.val (.int g1), .val (.int g2), .val (.int g3), .val (.int g4), .val (.int sh), .val (.int nn), .val (.int rr), .val (.ref ga), .val (.ref ia), .val (.double gt), .second, .val (.int (1 : Int32)), .val (.int (1 : Int32)), .val (.int (1 : Int32)), .val (.int (0 : Int32)), .val (.int (1 : Int32)), .val (.int ((1 : Int32) + (1 : Int32))), .val (.int (((1 : Int32) + (1 : Int32)) + (1 : Int32))), .val (.int ((((1 : Int32) + (1 : Int32)) + (1 : Int32)) + (0 : Int32))), .val (.double (FP.dadd (FP.dadd FP.dconst0 (FP.ddiv (FP.i2d (1 : Int32)) FP.dconst1)) (FP.ddiv (FP.i2d ((1 : Int32) + (1 : Int32))) (4611686018427387904 : UInt64)))), .second, .unset, .unset] at_213 rfl rfl ?_
                  refine WP.iload K 217 at_215 rfl rfl ?_
                  refine WP.if_eq K 232 220 at_217 (by decide) rfl (fun c217 => ?_) (fun c217 => ?_)
                  · skip
                    exact absurd c217 (by decide)
                  · skip
                    refine WP.dload K 222 at_220 rfl rfl ?_
                    refine WP.iload K 224 at_222 rfl rfl ?_
                    refine WP.i2d K 225 at_224 rfl ?_
                    refine WP.ldc2D K (v := (4613937818241073152 : UInt64)) 228 (hw _ (List.mem_of_getElem? (i := 32) rfl)) at_225 rfl ?_
                    refine WP.ddiv K 229 at_228 rfl (by unfold NoNaN64; decide +kernel) ?_
                    refine WP.dadd K 230 at_229 rfl (by unfold NoNaN64; decide +kernel) ?_
                    refine WP.dstore K 232 [.val (.int g1), .val (.int g2), .val (.int g3), .val (.int g4), .val (.int sh), .val (.int nn), .val (.int rr), .val (.ref ga), .val (.ref ia), .val (.double gt), .second, .val (.int (1 : Int32)), .val (.int (1 : Int32)), .val (.int (1 : Int32)), .val (.int (0 : Int32)), .val (.int (1 : Int32)), .val (.int ((1 : Int32) + (1 : Int32))), .val (.int (((1 : Int32) + (1 : Int32)) + (1 : Int32))), .val (.int ((((1 : Int32) + (1 : Int32)) + (1 : Int32)) + (0 : Int32))), .val (.double (FP.dadd (FP.dadd (FP.dadd FP.dconst0 (FP.ddiv (FP.i2d (1 : Int32)) FP.dconst1)) (FP.ddiv (FP.i2d ((1 : Int32) + (1 : Int32))) (4611686018427387904 : UInt64))) (FP.ddiv (FP.i2d (((1 : Int32) + (1 : Int32)) + (1 : Int32))) (4613937818241073152 : UInt64)))), .second, .unset, .unset] at_230 rfl rfl ?_
                    refine WP.iload K 234 at_232 rfl rfl ?_
                    refine WP.if_eq K 249 237 at_234 (by decide) rfl (fun c234 => ?_) (fun c234 => ?_)
                    · skip
                      exact J249 _ _ _ _ _ (by rw [show decide (1 ≤ n ∧ 0 < g1.toInt) = true from decide_eq_true d1, show decide (2 ≤ n ∧ 0 < g2.toInt) = true from decide_eq_true d2, show decide (3 ≤ n ∧ 0 < g3.toInt) = true from decide_eq_true d3, show decide (4 ≤ n ∧ 0 < g4.toInt) = false from decide_eq_false d4]; decide +kernel)
                    · skip
                      exact absurd c234 (by decide)
            · skip
              exact absurd c169 (by decide)
    · skip
      refine WP.iload K 125 at_123 rfl rfl ?_
      refine WP.if_eq K 132 128 at_125 (by decide) rfl (fun c125 => ?_) (fun c125 => ?_)
      · skip
        exact absurd c125 (by decide)
      · skip
        refine WP.iconst K (1 : Int32) 129 at_128 rfl rfl ?_
        refine WP.goto K 133 at_129 (by decide) ?_
        refine WP.istore K 135 [.val (.int g1), .val (.int g2), .val (.int g3), .val (.int g4), .val (.int sh), .val (.int nn), .val (.int rr), .val (.ref ga), .val (.ref ia), .val (.double gt), .second, .val (.int (1 : Int32)), .val (.int (1 : Int32)), .val (.int (0 : Int32)), .val (.int (1 : Int32)), .val (.int (1 : Int32)), .unset, .unset, .unset, .unset, .unset, .unset, .unset] at_133 rfl rfl ?_
        refine WP.iload K 137 at_135 rfl rfl ?_
        refine WP.iload K 139 at_137 rfl rfl ?_
        refine WP.if_eq K 146 142 at_139 (by decide) rfl (fun c139 => ?_) (fun c139 => ?_)
        · skip
          exact absurd c139 (by decide)
        · skip
          refine WP.iconst K (1 : Int32) 143 at_142 rfl rfl ?_
          refine WP.goto K 147 at_143 (by decide) ?_
          refine WP.iadd K 148 at_147 rfl ?_
          refine WP.istore K 150 [.val (.int g1), .val (.int g2), .val (.int g3), .val (.int g4), .val (.int sh), .val (.int nn), .val (.int rr), .val (.ref ga), .val (.ref ia), .val (.double gt), .second, .val (.int (1 : Int32)), .val (.int (1 : Int32)), .val (.int (0 : Int32)), .val (.int (1 : Int32)), .val (.int (1 : Int32)), .val (.int ((1 : Int32) + (1 : Int32))), .unset, .unset, .unset, .unset, .unset, .unset] at_148 rfl rfl ?_
          refine WP.iload K 152 at_150 rfl rfl ?_
          refine WP.iload K 154 at_152 rfl rfl ?_
          refine WP.if_eq K 161 157 at_154 (by decide) rfl (fun c154 => ?_) (fun c154 => ?_)
          · skip
            refine WP.iconst K (0 : Int32) 162 at_161 rfl rfl ?_
            refine WP.iadd K 163 at_162 rfl ?_
            refine WP.istore K 165 [.val (.int g1), .val (.int g2), .val (.int g3), .val (.int g4), .val (.int sh), .val (.int nn), .val (.int rr), .val (.ref ga), .val (.ref ia), .val (.double gt), .second, .val (.int (1 : Int32)), .val (.int (1 : Int32)), .val (.int (0 : Int32)), .val (.int (1 : Int32)), .val (.int (1 : Int32)), .val (.int ((1 : Int32) + (1 : Int32))), .val (.int (((1 : Int32) + (1 : Int32)) + (0 : Int32))), .unset, .unset, .unset, .unset, .unset] at_163 rfl rfl ?_
            refine WP.iload K 167 at_165 rfl rfl ?_
            refine WP.iload K 169 at_167 rfl rfl ?_
            refine WP.if_eq K 176 172 at_169 (by decide) rfl (fun c169 => ?_) (fun c169 => ?_)
            · skip
              exact absurd c169 (by decide)
            · skip
              refine WP.iconst K (1 : Int32) 173 at_172 rfl rfl ?_
              refine WP.goto K 177 at_173 (by decide) ?_
              refine WP.iadd K 178 at_177 rfl ?_
              refine WP.istore K 180 [.val (.int g1), .val (.int g2), .val (.int g3), .val (.int g4), .val (.int sh), .val (.int nn), .val (.int rr), .val (.ref ga), .val (.ref ia), .val (.double gt), .second, .val (.int (1 : Int32)), .val (.int (1 : Int32)), .val (.int (0 : Int32)), .val (.int (1 : Int32)), .val (.int (1 : Int32)), .val (.int ((1 : Int32) + (1 : Int32))), .val (.int (((1 : Int32) + (1 : Int32)) + (0 : Int32))), .val (.int ((((1 : Int32) + (1 : Int32)) + (0 : Int32)) + (1 : Int32))), .unset, .unset, .unset, .unset] at_178 rfl rfl ?_
              refine WP.dconst0 K 181 at_180 rfl ?_
              refine WP.dstore K 183 [.val (.int g1), .val (.int g2), .val (.int g3), .val (.int g4), .val (.int sh), .val (.int nn), .val (.int rr), .val (.ref ga), .val (.ref ia), .val (.double gt), .second, .val (.int (1 : Int32)), .val (.int (1 : Int32)), .val (.int (0 : Int32)), .val (.int (1 : Int32)), .val (.int (1 : Int32)), .val (.int ((1 : Int32) + (1 : Int32))), .val (.int (((1 : Int32) + (1 : Int32)) + (0 : Int32))), .val (.int ((((1 : Int32) + (1 : Int32)) + (0 : Int32)) + (1 : Int32))), .val (.double FP.dconst0), .second, .unset, .unset] at_181 rfl rfl ?_
              refine WP.iload K 185 at_183 rfl rfl ?_
              refine WP.if_eq K 198 188 at_185 (by decide) rfl (fun c185 => ?_) (fun c185 => ?_)
              · skip
                exact absurd c185 (by decide)
              · skip
                refine WP.dload K 190 at_188 rfl rfl ?_
                refine WP.iload K 192 at_190 rfl rfl ?_
                refine WP.i2d K 193 at_192 rfl ?_
                refine WP.dconst1 K 194 at_193 rfl ?_
                refine WP.ddiv K 195 at_194 rfl (by unfold NoNaN64; decide +kernel) ?_
                refine WP.dadd K 196 at_195 rfl (by unfold NoNaN64; decide +kernel) ?_
                refine WP.dstore K 198 [.val (.int g1), .val (.int g2), .val (.int g3), .val (.int g4), .val (.int sh), .val (.int nn), .val (.int rr), .val (.ref ga), .val (.ref ia), .val (.double gt), .second, .val (.int (1 : Int32)), .val (.int (1 : Int32)), .val (.int (0 : Int32)), .val (.int (1 : Int32)), .val (.int (1 : Int32)), .val (.int ((1 : Int32) + (1 : Int32))), .val (.int (((1 : Int32) + (1 : Int32)) + (0 : Int32))), .val (.int ((((1 : Int32) + (1 : Int32)) + (0 : Int32)) + (1 : Int32))), .val (.double (FP.dadd FP.dconst0 (FP.ddiv (FP.i2d (1 : Int32)) FP.dconst1))), .second, .unset, .unset] at_196 rfl rfl ?_
                refine WP.iload K 200 at_198 rfl rfl ?_
                refine WP.if_eq K 215 203 at_200 (by decide) rfl (fun c200 => ?_) (fun c200 => ?_)
                · skip
                  exact absurd c200 (by decide)
                · skip
                  refine WP.dload K 205 at_203 rfl rfl ?_
                  refine WP.iload K 207 at_205 rfl rfl ?_
                  refine WP.i2d K 208 at_207 rfl ?_
                  refine WP.ldc2D K (v := (4611686018427387904 : UInt64)) 211 (hw _ (List.mem_of_getElem? (i := 31) rfl)) at_208 rfl ?_
                  refine WP.ddiv K 212 at_211 rfl (by unfold NoNaN64; decide +kernel) ?_
                  refine WP.dadd K 213 at_212 rfl (by unfold NoNaN64; decide +kernel) ?_
                  refine WP.dstore K 215 [.val (.int g1), .val (.int g2), .val (.int g3), .val (.int g4), .val (.int sh), .val (.int nn), .val (.int rr), .val (.ref ga), .val (.ref ia), .val (.double gt), .second, .val (.int (1 : Int32)), .val (.int (1 : Int32)), .val (.int (0 : Int32)), .val (.int (1 : Int32)), .val (.int (1 : Int32)), .val (.int ((1 : Int32) + (1 : Int32))), .val (.int (((1 : Int32) + (1 : Int32)) + (0 : Int32))), .val (.int ((((1 : Int32) + (1 : Int32)) + (0 : Int32)) + (1 : Int32))), .val (.double (FP.dadd (FP.dadd FP.dconst0 (FP.ddiv (FP.i2d (1 : Int32)) FP.dconst1)) (FP.ddiv (FP.i2d ((1 : Int32) + (1 : Int32))) (4611686018427387904 : UInt64)))), .second, .unset, .unset] at_213 rfl rfl ?_
                  refine WP.iload K 217 at_215 rfl rfl ?_
                  refine WP.if_eq K 232 220 at_217 (by decide) rfl (fun c217 => ?_) (fun c217 => ?_)
                  · skip
                    refine WP.iload K 234 at_232 rfl rfl ?_
                    refine WP.if_eq K 249 237 at_234 (by decide) rfl (fun c234 => ?_) (fun c234 => ?_)
                    · skip
                      exact absurd c234 (by decide)
                    · skip
                      refine WP.dload K 239 at_237 rfl rfl ?_
                      refine WP.iload K 241 at_239 rfl rfl ?_
                      refine WP.i2d K 242 at_241 rfl ?_
                      refine WP.ldc2D K (v := (4616189618054758400 : UInt64)) 245 (hw _ (List.mem_of_getElem? (i := 33) rfl)) at_242 rfl ?_
                      refine WP.ddiv K 246 at_245 rfl (by unfold NoNaN64; decide +kernel) ?_
                      refine WP.dadd K 247 at_246 rfl (by unfold NoNaN64; decide +kernel) ?_
                      refine WP.dstore K 249 [.val (.int g1), .val (.int g2), .val (.int g3), .val (.int g4), .val (.int sh), .val (.int nn), .val (.int rr), .val (.ref ga), .val (.ref ia), .val (.double gt), .second, .val (.int (1 : Int32)), .val (.int (1 : Int32)), .val (.int (0 : Int32)), .val (.int (1 : Int32)), .val (.int (1 : Int32)), .val (.int ((1 : Int32) + (1 : Int32))), .val (.int (((1 : Int32) + (1 : Int32)) + (0 : Int32))), .val (.int ((((1 : Int32) + (1 : Int32)) + (0 : Int32)) + (1 : Int32))), .val (.double (FP.dadd (FP.dadd (FP.dadd FP.dconst0 (FP.ddiv (FP.i2d (1 : Int32)) FP.dconst1)) (FP.ddiv (FP.i2d ((1 : Int32) + (1 : Int32))) (4611686018427387904 : UInt64))) (FP.ddiv (FP.i2d ((((1 : Int32) + (1 : Int32)) + (0 : Int32)) + (1 : Int32))) (4616189618054758400 : UInt64)))), .second, .unset, .unset] at_247 rfl rfl ?_
                      exact J249 _ _ _ _ _ (by rw [show decide (1 ≤ n ∧ 0 < g1.toInt) = true from decide_eq_true d1, show decide (2 ≤ n ∧ 0 < g2.toInt) = true from decide_eq_true d2, show decide (3 ≤ n ∧ 0 < g3.toInt) = false from decide_eq_false d3, show decide (4 ≤ n ∧ 0 < g4.toInt) = true from decide_eq_true d4]; decide +kernel)
                  · skip
                    exact absurd c217 (by decide)
          · skip
            exact absurd c154 (by decide)
    · skip
      refine WP.iload K 125 at_123 rfl rfl ?_
      refine WP.if_eq K 132 128 at_125 (by decide) rfl (fun c125 => ?_) (fun c125 => ?_)
      · skip
        exact absurd c125 (by decide)
      · skip
        refine WP.iconst K (1 : Int32) 129 at_128 rfl rfl ?_
        refine WP.goto K 133 at_129 (by decide) ?_
        refine WP.istore K 135 [.val (.int g1), .val (.int g2), .val (.int g3), .val (.int g4), .val (.int sh), .val (.int nn), .val (.int rr), .val (.ref ga), .val (.ref ia), .val (.double gt), .second, .val (.int (1 : Int32)), .val (.int (1 : Int32)), .val (.int (0 : Int32)), .val (.int (0 : Int32)), .val (.int (1 : Int32)), .unset, .unset, .unset, .unset, .unset, .unset, .unset] at_133 rfl rfl ?_
        refine WP.iload K 137 at_135 rfl rfl ?_
        refine WP.iload K 139 at_137 rfl rfl ?_
        refine WP.if_eq K 146 142 at_139 (by decide) rfl (fun c139 => ?_) (fun c139 => ?_)
        · skip
          exact absurd c139 (by decide)
        · skip
          refine WP.iconst K (1 : Int32) 143 at_142 rfl rfl ?_
          refine WP.goto K 147 at_143 (by decide) ?_
          refine WP.iadd K 148 at_147 rfl ?_
          refine WP.istore K 150 [.val (.int g1), .val (.int g2), .val (.int g3), .val (.int g4), .val (.int sh), .val (.int nn), .val (.int rr), .val (.ref ga), .val (.ref ia), .val (.double gt), .second, .val (.int (1 : Int32)), .val (.int (1 : Int32)), .val (.int (0 : Int32)), .val (.int (0 : Int32)), .val (.int (1 : Int32)), .val (.int ((1 : Int32) + (1 : Int32))), .unset, .unset, .unset, .unset, .unset, .unset] at_148 rfl rfl ?_
          refine WP.iload K 152 at_150 rfl rfl ?_
          refine WP.iload K 154 at_152 rfl rfl ?_
          refine WP.if_eq K 161 157 at_154 (by decide) rfl (fun c154 => ?_) (fun c154 => ?_)
          · skip
            refine WP.iconst K (0 : Int32) 162 at_161 rfl rfl ?_
            refine WP.iadd K 163 at_162 rfl ?_
            refine WP.istore K 165 [.val (.int g1), .val (.int g2), .val (.int g3), .val (.int g4), .val (.int sh), .val (.int nn), .val (.int rr), .val (.ref ga), .val (.ref ia), .val (.double gt), .second, .val (.int (1 : Int32)), .val (.int (1 : Int32)), .val (.int (0 : Int32)), .val (.int (0 : Int32)), .val (.int (1 : Int32)), .val (.int ((1 : Int32) + (1 : Int32))), .val (.int (((1 : Int32) + (1 : Int32)) + (0 : Int32))), .unset, .unset, .unset, .unset, .unset] at_163 rfl rfl ?_
            refine WP.iload K 167 at_165 rfl rfl ?_
            refine WP.iload K 169 at_167 rfl rfl ?_
            refine WP.if_eq K 176 172 at_169 (by decide) rfl (fun c169 => ?_) (fun c169 => ?_)
            · skip
              refine WP.iconst K (0 : Int32) 177 at_176 rfl rfl ?_
              refine WP.iadd K 178 at_177 rfl ?_
              refine WP.istore K 180 [.val (.int g1), .val (.int g2), .val (.int g3), .val (.int g4), .val (.int sh), .val (.int nn), .val (.int rr), .val (.ref ga), .val (.ref ia), .val (.double gt), .second, .val (.int (1 : Int32)), .val (.int (1 : Int32)), .val (.int (0 : Int32)), .val (.int (0 : Int32)), .val (.int (1 : Int32)), .val (.int ((1 : Int32) + (1 : Int32))), .val (.int (((1 : Int32) + (1 : Int32)) + (0 : Int32))), .val (.int ((((1 : Int32) + (1 : Int32)) + (0 : Int32)) + (0 : Int32))), .unset, .unset, .unset, .unset] at_178 rfl rfl ?_
              refine WP.dconst0 K 181 at_180 rfl ?_
              refine WP.dstore K 183 [.val (.int g1), .val (.int g2), .val (.int g3), .val (.int g4), .val (.int sh), .val (.int nn), .val (.int rr), .val (.ref ga), .val (.ref ia), .val (.double gt), .second, .val (.int (1 : Int32)), .val (.int (1 : Int32)), .val (.int (0 : Int32)), .val (.int (0 : Int32)), .val (.int (1 : Int32)), .val (.int ((1 : Int32) + (1 : Int32))), .val (.int (((1 : Int32) + (1 : Int32)) + (0 : Int32))), .val (.int ((((1 : Int32) + (1 : Int32)) + (0 : Int32)) + (0 : Int32))), .val (.double FP.dconst0), .second, .unset, .unset] at_181 rfl rfl ?_
              refine WP.iload K 185 at_183 rfl rfl ?_
              refine WP.if_eq K 198 188 at_185 (by decide) rfl (fun c185 => ?_) (fun c185 => ?_)
              · skip
                exact absurd c185 (by decide)
              · skip
                refine WP.dload K 190 at_188 rfl rfl ?_
                refine WP.iload K 192 at_190 rfl rfl ?_
                refine WP.i2d K 193 at_192 rfl ?_
                refine WP.dconst1 K 194 at_193 rfl ?_
                refine WP.ddiv K 195 at_194 rfl (by unfold NoNaN64; decide +kernel) ?_
                refine WP.dadd K 196 at_195 rfl (by unfold NoNaN64; decide +kernel) ?_
                refine WP.dstore K 198 [.val (.int g1), .val (.int g2), .val (.int g3), .val (.int g4), .val (.int sh), .val (.int nn), .val (.int rr), .val (.ref ga), .val (.ref ia), .val (.double gt), .second, .val (.int (1 : Int32)), .val (.int (1 : Int32)), .val (.int (0 : Int32)), .val (.int (0 : Int32)), .val (.int (1 : Int32)), .val (.int ((1 : Int32) + (1 : Int32))), .val (.int (((1 : Int32) + (1 : Int32)) + (0 : Int32))), .val (.int ((((1 : Int32) + (1 : Int32)) + (0 : Int32)) + (0 : Int32))), .val (.double (FP.dadd FP.dconst0 (FP.ddiv (FP.i2d (1 : Int32)) FP.dconst1))), .second, .unset, .unset] at_196 rfl rfl ?_
                refine WP.iload K 200 at_198 rfl rfl ?_
                refine WP.if_eq K 215 203 at_200 (by decide) rfl (fun c200 => ?_) (fun c200 => ?_)
                · skip
                  exact absurd c200 (by decide)
                · skip
                  refine WP.dload K 205 at_203 rfl rfl ?_
                  refine WP.iload K 207 at_205 rfl rfl ?_
                  refine WP.i2d K 208 at_207 rfl ?_
                  refine WP.ldc2D K (v := (4611686018427387904 : UInt64)) 211 (hw _ (List.mem_of_getElem? (i := 31) rfl)) at_208 rfl ?_
                  refine WP.ddiv K 212 at_211 rfl (by unfold NoNaN64; decide +kernel) ?_
                  refine WP.dadd K 213 at_212 rfl (by unfold NoNaN64; decide +kernel) ?_
                  refine WP.dstore K 215 [.val (.int g1), .val (.int g2), .val (.int g3), .val (.int g4), .val (.int sh), .val (.int nn), .val (.int rr), .val (.ref ga), .val (.ref ia), .val (.double gt), .second, .val (.int (1 : Int32)), .val (.int (1 : Int32)), .val (.int (0 : Int32)), .val (.int (0 : Int32)), .val (.int (1 : Int32)), .val (.int ((1 : Int32) + (1 : Int32))), .val (.int (((1 : Int32) + (1 : Int32)) + (0 : Int32))), .val (.int ((((1 : Int32) + (1 : Int32)) + (0 : Int32)) + (0 : Int32))), .val (.double (FP.dadd (FP.dadd FP.dconst0 (FP.ddiv (FP.i2d (1 : Int32)) FP.dconst1)) (FP.ddiv (FP.i2d ((1 : Int32) + (1 : Int32))) (4611686018427387904 : UInt64)))), .second, .unset, .unset] at_213 rfl rfl ?_
                  refine WP.iload K 217 at_215 rfl rfl ?_
                  refine WP.if_eq K 232 220 at_217 (by decide) rfl (fun c217 => ?_) (fun c217 => ?_)
                  · skip
                    refine WP.iload K 234 at_232 rfl rfl ?_
                    refine WP.if_eq K 249 237 at_234 (by decide) rfl (fun c234 => ?_) (fun c234 => ?_)
                    · skip
                      exact J249 _ _ _ _ _ (by rw [show decide (1 ≤ n ∧ 0 < g1.toInt) = true from decide_eq_true d1, show decide (2 ≤ n ∧ 0 < g2.toInt) = true from decide_eq_true d2, show decide (3 ≤ n ∧ 0 < g3.toInt) = false from decide_eq_false d3, show decide (4 ≤ n ∧ 0 < g4.toInt) = false from decide_eq_false d4]; decide +kernel)
                    · skip
                      exact absurd c234 (by decide)
                  · skip
                    exact absurd c217 (by decide)
            · skip
              exact absurd c169 (by decide)
          · skip
            exact absurd c154 (by decide)
    · skip
      refine WP.iload K 125 at_123 rfl rfl ?_
      refine WP.if_eq K 132 128 at_125 (by decide) rfl (fun c125 => ?_) (fun c125 => ?_)
      · skip
        exact absurd c125 (by decide)
      · skip
        refine WP.iconst K (1 : Int32) 129 at_128 rfl rfl ?_
        refine WP.goto K 133 at_129 (by decide) ?_
        refine WP.istore K 135 [.val (.int g1), .val (.int g2), .val (.int g3), .val (.int g4), .val (.int sh), .val (.int nn), .val (.int rr), .val (.ref ga), .val (.ref ia), .val (.double gt), .second, .val (.int (1 : Int32)), .val (.int (0 : Int32)), .val (.int (1 : Int32)), .val (.int (1 : Int32)), .val (.int (1 : Int32)), .unset, .unset, .unset, .unset, .unset, .unset, .unset] at_133 rfl rfl ?_
        refine WP.iload K 137 at_135 rfl rfl ?_
        refine WP.iload K 139 at_137 rfl rfl ?_
        refine WP.if_eq K 146 142 at_139 (by decide) rfl (fun c139 => ?_) (fun c139 => ?_)
        · skip
          refine WP.iconst K (0 : Int32) 147 at_146 rfl rfl ?_
          refine WP.iadd K 148 at_147 rfl ?_
          refine WP.istore K 150 [.val (.int g1), .val (.int g2), .val (.int g3), .val (.int g4), .val (.int sh), .val (.int nn), .val (.int rr), .val (.ref ga), .val (.ref ia), .val (.double gt), .second, .val (.int (1 : Int32)), .val (.int (0 : Int32)), .val (.int (1 : Int32)), .val (.int (1 : Int32)), .val (.int (1 : Int32)), .val (.int ((1 : Int32) + (0 : Int32))), .unset, .unset, .unset, .unset, .unset, .unset] at_148 rfl rfl ?_
          refine WP.iload K 152 at_150 rfl rfl ?_
          refine WP.iload K 154 at_152 rfl rfl ?_
          refine WP.if_eq K 161 157 at_154 (by decide) rfl (fun c154 => ?_) (fun c154 => ?_)
          · skip
            exact absurd c154 (by decide)
          · skip
            refine WP.iconst K (1 : Int32) 158 at_157 rfl rfl ?_
            refine WP.goto K 162 at_158 (by decide) ?_
            refine WP.iadd K 163 at_162 rfl ?_
            refine WP.istore K 165 [.val (.int g1), .val (.int g2), .val (.int g3), .val (.int g4), .val (.int sh), .val (.int nn), .val (.int rr), .val (.ref ga), .val (.ref ia), .val (.double gt), .second, .val (.int (1 : Int32)), .val (.int (0 : Int32)), .val (.int (1 : Int32)), .val (.int (1 : Int32)), .val (.int (1 : Int32)), .val (.int ((1 : Int32) + (0 : Int32))), .val (.int (((1 : Int32) + (0 : Int32)) + (1 : Int32))), .unset, .unset, .unset, .unset, .unset] at_163 rfl rfl ?_
            refine WP.iload K 167 at_165 rfl rfl ?_
            refine WP.iload K 169 at_167 rfl rfl ?_
            refine WP.if_eq K 176 172 at_169 (by decide) rfl (fun c169 => ?_) (fun c169 => ?_)
            · skip
              exact absurd c169 (by decide)
            · skip
              refine WP.iconst K (1 : Int32) 173 at_172 rfl rfl ?_
              refine WP.goto K 177 at_173 (by decide) ?_
              refine WP.iadd K 178 at_177 rfl ?_
              refine WP.istore K 180 [.val (.int g1), .val (.int g2), .val (.int g3), .val (.int g4), .val (.int sh), .val (.int nn), .val (.int rr), .val (.ref ga), .val (.ref ia), .val (.double gt), .second, .val (.int (1 : Int32)), .val (.int (0 : Int32)), .val (.int (1 : Int32)), .val (.int (1 : Int32)), .val (.int (1 : Int32)), .val (.int ((1 : Int32) + (0 : Int32))), .val (.int (((1 : Int32) + (0 : Int32)) + (1 : Int32))), .val (.int ((((1 : Int32) + (0 : Int32)) + (1 : Int32)) + (1 : Int32))), .unset, .unset, .unset, .unset] at_178 rfl rfl ?_
              refine WP.dconst0 K 181 at_180 rfl ?_
              refine WP.dstore K 183 [.val (.int g1), .val (.int g2), .val (.int g3), .val (.int g4), .val (.int sh), .val (.int nn), .val (.int rr), .val (.ref ga), .val (.ref ia), .val (.double gt), .second, .val (.int (1 : Int32)), .val (.int (0 : Int32)), .val (.int (1 : Int32)), .val (.int (1 : Int32)), .val (.int (1 : Int32)), .val (.int ((1 : Int32) + (0 : Int32))), .val (.int (((1 : Int32) + (0 : Int32)) + (1 : Int32))), .val (.int ((((1 : Int32) + (0 : Int32)) + (1 : Int32)) + (1 : Int32))), .val (.double FP.dconst0), .second, .unset, .unset] at_181 rfl rfl ?_
              refine WP.iload K 185 at_183 rfl rfl ?_
              refine WP.if_eq K 198 188 at_185 (by decide) rfl (fun c185 => ?_) (fun c185 => ?_)
              · skip
                exact absurd c185 (by decide)
              · skip
                refine WP.dload K 190 at_188 rfl rfl ?_
                refine WP.iload K 192 at_190 rfl rfl ?_
                refine WP.i2d K 193 at_192 rfl ?_
                refine WP.dconst1 K 194 at_193 rfl ?_
                refine WP.ddiv K 195 at_194 rfl (by unfold NoNaN64; decide +kernel) ?_
                refine WP.dadd K 196 at_195 rfl (by unfold NoNaN64; decide +kernel) ?_
                refine WP.dstore K 198 [.val (.int g1), .val (.int g2), .val (.int g3), .val (.int g4), .val (.int sh), .val (.int nn), .val (.int rr), .val (.ref ga), .val (.ref ia), .val (.double gt), .second, .val (.int (1 : Int32)), .val (.int (0 : Int32)), .val (.int (1 : Int32)), .val (.int (1 : Int32)), .val (.int (1 : Int32)), .val (.int ((1 : Int32) + (0 : Int32))), .val (.int (((1 : Int32) + (0 : Int32)) + (1 : Int32))), .val (.int ((((1 : Int32) + (0 : Int32)) + (1 : Int32)) + (1 : Int32))), .val (.double (FP.dadd FP.dconst0 (FP.ddiv (FP.i2d (1 : Int32)) FP.dconst1))), .second, .unset, .unset] at_196 rfl rfl ?_
                refine WP.iload K 200 at_198 rfl rfl ?_
                refine WP.if_eq K 215 203 at_200 (by decide) rfl (fun c200 => ?_) (fun c200 => ?_)
                · skip
                  refine WP.iload K 217 at_215 rfl rfl ?_
                  refine WP.if_eq K 232 220 at_217 (by decide) rfl (fun c217 => ?_) (fun c217 => ?_)
                  · skip
                    exact absurd c217 (by decide)
                  · skip
                    refine WP.dload K 222 at_220 rfl rfl ?_
                    refine WP.iload K 224 at_222 rfl rfl ?_
                    refine WP.i2d K 225 at_224 rfl ?_
                    refine WP.ldc2D K (v := (4613937818241073152 : UInt64)) 228 (hw _ (List.mem_of_getElem? (i := 32) rfl)) at_225 rfl ?_
                    refine WP.ddiv K 229 at_228 rfl (by unfold NoNaN64; decide +kernel) ?_
                    refine WP.dadd K 230 at_229 rfl (by unfold NoNaN64; decide +kernel) ?_
                    refine WP.dstore K 232 [.val (.int g1), .val (.int g2), .val (.int g3), .val (.int g4), .val (.int sh), .val (.int nn), .val (.int rr), .val (.ref ga), .val (.ref ia), .val (.double gt), .second, .val (.int (1 : Int32)), .val (.int (0 : Int32)), .val (.int (1 : Int32)), .val (.int (1 : Int32)), .val (.int (1 : Int32)), .val (.int ((1 : Int32) + (0 : Int32))), .val (.int (((1 : Int32) + (0 : Int32)) + (1 : Int32))), .val (.int ((((1 : Int32) + (0 : Int32)) + (1 : Int32)) + (1 : Int32))), .val (.double (FP.dadd (FP.dadd FP.dconst0 (FP.ddiv (FP.i2d (1 : Int32)) FP.dconst1)) (FP.ddiv (FP.i2d (((1 : Int32) + (0 : Int32)) + (1 : Int32))) (4613937818241073152 : UInt64)))), .second, .unset, .unset] at_230 rfl rfl ?_
                    refine WP.iload K 234 at_232 rfl rfl ?_
                    refine WP.if_eq K 249 237 at_234 (by decide) rfl (fun c234 => ?_) (fun c234 => ?_)
                    · skip
                      exact absurd c234 (by decide)
                    · skip
                      refine WP.dload K 239 at_237 rfl rfl ?_
                      refine WP.iload K 241 at_239 rfl rfl ?_
                      refine WP.i2d K 242 at_241 rfl ?_
                      refine WP.ldc2D K (v := (4616189618054758400 : UInt64)) 245 (hw _ (List.mem_of_getElem? (i := 33) rfl)) at_242 rfl ?_
                      refine WP.ddiv K 246 at_245 rfl (by unfold NoNaN64; decide +kernel) ?_
                      refine WP.dadd K 247 at_246 rfl (by unfold NoNaN64; decide +kernel) ?_
                      refine WP.dstore K 249 [.val (.int g1), .val (.int g2), .val (.int g3), .val (.int g4), .val (.int sh), .val (.int nn), .val (.int rr), .val (.ref ga), .val (.ref ia), .val (.double gt), .second, .val (.int (1 : Int32)), .val (.int (0 : Int32)), .val (.int (1 : Int32)), .val (.int (1 : Int32)), .val (.int (1 : Int32)), .val (.int ((1 : Int32) + (0 : Int32))), .val (.int (((1 : Int32) + (0 : Int32)) + (1 : Int32))), .val (.int ((((1 : Int32) + (0 : Int32)) + (1 : Int32)) + (1 : Int32))), .val (.double (FP.dadd (FP.dadd (FP.dadd FP.dconst0 (FP.ddiv (FP.i2d (1 : Int32)) FP.dconst1)) (FP.ddiv (FP.i2d (((1 : Int32) + (0 : Int32)) + (1 : Int32))) (4613937818241073152 : UInt64))) (FP.ddiv (FP.i2d ((((1 : Int32) + (0 : Int32)) + (1 : Int32)) + (1 : Int32))) (4616189618054758400 : UInt64)))), .second, .unset, .unset] at_247 rfl rfl ?_
                      exact J249 _ _ _ _ _ (by rw [show decide (1 ≤ n ∧ 0 < g1.toInt) = true from decide_eq_true d1, show decide (2 ≤ n ∧ 0 < g2.toInt) = false from decide_eq_false d2, show decide (3 ≤ n ∧ 0 < g3.toInt) = true from decide_eq_true d3, show decide (4 ≤ n ∧ 0 < g4.toInt) = true from decide_eq_true d4]; decide +kernel)
                · skip
                  exact absurd c200 (by decide)
        · skip
          exact absurd c139 (by decide)
    · skip
      refine WP.iload K 125 at_123 rfl rfl ?_
      refine WP.if_eq K 132 128 at_125 (by decide) rfl (fun c125 => ?_) (fun c125 => ?_)
      · skip
        exact absurd c125 (by decide)
      · skip
        refine WP.iconst K (1 : Int32) 129 at_128 rfl rfl ?_
        refine WP.goto K 133 at_129 (by decide) ?_
        refine WP.istore K 135 [.val (.int g1), .val (.int g2), .val (.int g3), .val (.int g4), .val (.int sh), .val (.int nn), .val (.int rr), .val (.ref ga), .val (.ref ia), .val (.double gt), .second, .val (.int (1 : Int32)), .val (.int (0 : Int32)), .val (.int (1 : Int32)), .val (.int (0 : Int32)), .val (.int (1 : Int32)), .unset, .unset, .unset, .unset, .unset, .unset, .unset] at_133 rfl rfl ?_
        refine WP.iload K 137 at_135 rfl rfl ?_
        refine WP.iload K 139 at_137 rfl rfl ?_
        refine WP.if_eq K 146 142 at_139 (by decide) rfl (fun c139 => ?_) (fun c139 => ?_)
        · skip
          refine WP.iconst K (0 : Int32) 147 at_146 rfl rfl ?_
          refine WP.iadd K 148 at_147 rfl ?_
          refine WP.istore K 150 [.val (.int g1), .val (.int g2), .val (.int g3), .val (.int g4), .val (.int sh), .val (.int nn), .val (.int rr), .val (.ref ga), .val (.ref ia), .val (.double gt), .second, .val (.int (1 : Int32)), .val (.int (0 : Int32)), .val (.int (1 : Int32)), .val (.int (0 : Int32)), .val (.int (1 : Int32)), .val (.int ((1 : Int32) + (0 : Int32))), .unset, .unset, .unset, .unset, .unset, .unset] at_148 rfl rfl ?_
          refine WP.iload K 152 at_150 rfl rfl ?_
          refine WP.iload K 154 at_152 rfl rfl ?_
          refine WP.if_eq K 161 157 at_154 (by decide) rfl (fun c154 => ?_) (fun c154 => ?_)
          · skip
            exact absurd c154 (by decide)
          · skip
            refine WP.iconst K (1 : Int32) 158 at_157 rfl rfl ?_
            refine WP.goto K 162 at_158 (by decide) ?_
            refine WP.iadd K 163 at_162 rfl ?_
            refine WP.istore K 165 [.val (.int g1), .val (.int g2), .val (.int g3), .val (.int g4), .val (.int sh), .val (.int nn), .val (.int rr), .val (.ref ga), .val (.ref ia), .val (.double gt), .second, .val (.int (1 : Int32)), .val (.int (0 : Int32)), .val (.int (1 : Int32)), .val (.int (0 : Int32)), .val (.int (1 : Int32)), .val (.int ((1 : Int32) + (0 : Int32))), .val (.int (((1 : Int32) + (0 : Int32)) + (1 : Int32))), .unset, .unset, .unset, .unset, .unset] at_163 rfl rfl ?_
            refine WP.iload K 167 at_165 rfl rfl ?_
            refine WP.iload K 169 at_167 rfl rfl ?_
            refine WP.if_eq K 176 172 at_169 (by decide) rfl (fun c169 => ?_) (fun c169 => ?_)
            · skip
              refine WP.iconst K (0 : Int32) 177 at_176 rfl rfl ?_
              refine WP.iadd K 178 at_177 rfl ?_
              refine WP.istore K 180 [.val (.int g1), .val (.int g2), .val (.int g3), .val (.int g4), .val (.int sh), .val (.int nn), .val (.int rr), .val (.ref ga), .val (.ref ia), .val (.double gt), .second, .val (.int (1 : Int32)), .val (.int (0 : Int32)), .val (.int (1 : Int32)), .val (.int (0 : Int32)), .val (.int (1 : Int32)), .val (.int ((1 : Int32) + (0 : Int32))), .val (.int (((1 : Int32) + (0 : Int32)) + (1 : Int32))), .val (.int ((((1 : Int32) + (0 : Int32)) + (1 : Int32)) + (0 : Int32))), .unset, .unset, .unset, .unset] at_178 rfl rfl ?_
              refine WP.dconst0 K 181 at_180 rfl ?_
              refine WP.dstore K 183 [.val (.int g1), .val (.int g2), .val (.int g3), .val (.int g4), .val (.int sh), .val (.int nn), .val (.int rr), .val (.ref ga), .val (.ref ia), .val (.double gt), .second, .val (.int (1 : Int32)), .val (.int (0 : Int32)), .val (.int (1 : Int32)), .val (.int (0 : Int32)), .val (.int (1 : Int32)), .val (.int ((1 : Int32) + (0 : Int32))), .val (.int (((1 : Int32) + (0 : Int32)) + (1 : Int32))), .val (.int ((((1 : Int32) + (0 : Int32)) + (1 : Int32)) + (0 : Int32))), .val (.double FP.dconst0), .second, .unset, .unset] at_181 rfl rfl ?_
              refine WP.iload K 185 at_183 rfl rfl ?_
              refine WP.if_eq K 198 188 at_185 (by decide) rfl (fun c185 => ?_) (fun c185 => ?_)
              · skip
                exact absurd c185 (by decide)
              · skip
                refine WP.dload K 190 at_188 rfl rfl ?_
                refine WP.iload K 192 at_190 rfl rfl ?_
                refine WP.i2d K 193 at_192 rfl ?_
                refine WP.dconst1 K 194 at_193 rfl ?_
                refine WP.ddiv K 195 at_194 rfl (by unfold NoNaN64; decide +kernel) ?_
                refine WP.dadd K 196 at_195 rfl (by unfold NoNaN64; decide +kernel) ?_
                refine WP.dstore K 198 [.val (.int g1), .val (.int g2), .val (.int g3), .val (.int g4), .val (.int sh), .val (.int nn), .val (.int rr), .val (.ref ga), .val (.ref ia), .val (.double gt), .second, .val (.int (1 : Int32)), .val (.int (0 : Int32)), .val (.int (1 : Int32)), .val (.int (0 : Int32)), .val (.int (1 : Int32)), .val (.int ((1 : Int32) + (0 : Int32))), .val (.int (((1 : Int32) + (0 : Int32)) + (1 : Int32))), .val (.int ((((1 : Int32) + (0 : Int32)) + (1 : Int32)) + (0 : Int32))), .val (.double (FP.dadd FP.dconst0 (FP.ddiv (FP.i2d (1 : Int32)) FP.dconst1))), .second, .unset, .unset] at_196 rfl rfl ?_
                refine WP.iload K 200 at_198 rfl rfl ?_
                refine WP.if_eq K 215 203 at_200 (by decide) rfl (fun c200 => ?_) (fun c200 => ?_)
                · skip
                  refine WP.iload K 217 at_215 rfl rfl ?_
                  refine WP.if_eq K 232 220 at_217 (by decide) rfl (fun c217 => ?_) (fun c217 => ?_)
                  · skip
                    exact absurd c217 (by decide)
                  · skip
                    refine WP.dload K 222 at_220 rfl rfl ?_
                    refine WP.iload K 224 at_222 rfl rfl ?_
                    refine WP.i2d K 225 at_224 rfl ?_
                    refine WP.ldc2D K (v := (4613937818241073152 : UInt64)) 228 (hw _ (List.mem_of_getElem? (i := 32) rfl)) at_225 rfl ?_
                    refine WP.ddiv K 229 at_228 rfl (by unfold NoNaN64; decide +kernel) ?_
                    refine WP.dadd K 230 at_229 rfl (by unfold NoNaN64; decide +kernel) ?_
                    refine WP.dstore K 232 [.val (.int g1), .val (.int g2), .val (.int g3), .val (.int g4), .val (.int sh), .val (.int nn), .val (.int rr), .val (.ref ga), .val (.ref ia), .val (.double gt), .second, .val (.int (1 : Int32)), .val (.int (0 : Int32)), .val (.int (1 : Int32)), .val (.int (0 : Int32)), .val (.int (1 : Int32)), .val (.int ((1 : Int32) + (0 : Int32))), .val (.int (((1 : Int32) + (0 : Int32)) + (1 : Int32))), .val (.int ((((1 : Int32) + (0 : Int32)) + (1 : Int32)) + (0 : Int32))), .val (.double (FP.dadd (FP.dadd FP.dconst0 (FP.ddiv (FP.i2d (1 : Int32)) FP.dconst1)) (FP.ddiv (FP.i2d (((1 : Int32) + (0 : Int32)) + (1 : Int32))) (4613937818241073152 : UInt64)))), .second, .unset, .unset] at_230 rfl rfl ?_
                    refine WP.iload K 234 at_232 rfl rfl ?_
                    refine WP.if_eq K 249 237 at_234 (by decide) rfl (fun c234 => ?_) (fun c234 => ?_)
                    · skip
                      exact J249 _ _ _ _ _ (by rw [show decide (1 ≤ n ∧ 0 < g1.toInt) = true from decide_eq_true d1, show decide (2 ≤ n ∧ 0 < g2.toInt) = false from decide_eq_false d2, show decide (3 ≤ n ∧ 0 < g3.toInt) = true from decide_eq_true d3, show decide (4 ≤ n ∧ 0 < g4.toInt) = false from decide_eq_false d4]; decide +kernel)
                    · skip
                      exact absurd c234 (by decide)
                · skip
                  exact absurd c200 (by decide)
            · skip
              exact absurd c169 (by decide)
        · skip
          exact absurd c139 (by decide)
    · skip
      refine WP.iload K 125 at_123 rfl rfl ?_
      refine WP.if_eq K 132 128 at_125 (by decide) rfl (fun c125 => ?_) (fun c125 => ?_)
      · skip
        exact absurd c125 (by decide)
      · skip
        refine WP.iconst K (1 : Int32) 129 at_128 rfl rfl ?_
        refine WP.goto K 133 at_129 (by decide) ?_
        refine WP.istore K 135 [.val (.int g1), .val (.int g2), .val (.int g3), .val (.int g4), .val (.int sh), .val (.int nn), .val (.int rr), .val (.ref ga), .val (.ref ia), .val (.double gt), .second, .val (.int (1 : Int32)), .val (.int (0 : Int32)), .val (.int (0 : Int32)), .val (.int (1 : Int32)), .val (.int (1 : Int32)), .unset, .unset, .unset, .unset, .unset, .unset, .unset] at_133 rfl rfl ?_
        refine WP.iload K 137 at_135 rfl rfl ?_
        refine WP.iload K 139 at_137 rfl rfl ?_
        refine WP.if_eq K 146 142 at_139 (by decide) rfl (fun c139 => ?_) (fun c139 => ?_)
        · skip
          refine WP.iconst K (0 : Int32) 147 at_146 rfl rfl ?_
          refine WP.iadd K 148 at_147 rfl ?_
          refine WP.istore K 150 [.val (.int g1), .val (.int g2), .val (.int g3), .val (.int g4), .val (.int sh), .val (.int nn), .val (.int rr), .val (.ref ga), .val (.ref ia), .val (.double gt), .second, .val (.int (1 : Int32)), .val (.int (0 : Int32)), .val (.int (0 : Int32)), .val (.int (1 : Int32)), .val (.int (1 : Int32)), .val (.int ((1 : Int32) + (0 : Int32))), .unset, .unset, .unset, .unset, .unset, .unset] at_148 rfl rfl ?_
          refine WP.iload K 152 at_150 rfl rfl ?_
          refine WP.iload K 154 at_152 rfl rfl ?_
          refine WP.if_eq K 161 157 at_154 (by decide) rfl (fun c154 => ?_) (fun c154 => ?_)
          · skip
            refine WP.iconst K (0 : Int32) 162 at_161 rfl rfl ?_
            refine WP.iadd K 163 at_162 rfl ?_
            refine WP.istore K 165 [.val (.int g1), .val (.int g2), .val (.int g3), .val (.int g4), .val (.int sh), .val (.int nn), .val (.int rr), .val (.ref ga), .val (.ref ia), .val (.double gt), .second, .val (.int (1 : Int32)), .val (.int (0 : Int32)), .val (.int (0 : Int32)), .val (.int (1 : Int32)), .val (.int (1 : Int32)), .val (.int ((1 : Int32) + (0 : Int32))), .val (.int (((1 : Int32) + (0 : Int32)) + (0 : Int32))), .unset, .unset, .unset, .unset, .unset] at_163 rfl rfl ?_
            refine WP.iload K 167 at_165 rfl rfl ?_
            refine WP.iload K 169 at_167 rfl rfl ?_
            refine WP.if_eq K 176 172 at_169 (by decide) rfl (fun c169 => ?_) (fun c169 => ?_)
            · skip
              exact absurd c169 (by decide)
            · skip
              refine WP.iconst K (1 : Int32) 173 at_172 rfl rfl ?_
              refine WP.goto K 177 at_173 (by decide) ?_
              refine WP.iadd K 178 at_177 rfl ?_
              refine WP.istore K 180 [.val (.int g1), .val (.int g2), .val (.int g3), .val (.int g4), .val (.int sh), .val (.int nn), .val (.int rr), .val (.ref ga), .val (.ref ia), .val (.double gt), .second, .val (.int (1 : Int32)), .val (.int (0 : Int32)), .val (.int (0 : Int32)), .val (.int (1 : Int32)), .val (.int (1 : Int32)), .val (.int ((1 : Int32) + (0 : Int32))), .val (.int (((1 : Int32) + (0 : Int32)) + (0 : Int32))), .val (.int ((((1 : Int32) + (0 : Int32)) + (0 : Int32)) + (1 : Int32))), .unset, .unset, .unset, .unset] at_178 rfl rfl ?_
              refine WP.dconst0 K 181 at_180 rfl ?_
              refine WP.dstore K 183 [.val (.int g1), .val (.int g2), .val (.int g3), .val (.int g4), .val (.int sh), .val (.int nn), .val (.int rr), .val (.ref ga), .val (.ref ia), .val (.double gt), .second, .val (.int (1 : Int32)), .val (.int (0 : Int32)), .val (.int (0 : Int32)), .val (.int (1 : Int32)), .val (.int (1 : Int32)), .val (.int ((1 : Int32) + (0 : Int32))), .val (.int (((1 : Int32) + (0 : Int32)) + (0 : Int32))), .val (.int ((((1 : Int32) + (0 : Int32)) + (0 : Int32)) + (1 : Int32))), .val (.double FP.dconst0), .second, .unset, .unset] at_181 rfl rfl ?_
              refine WP.iload K 185 at_183 rfl rfl ?_
              refine WP.if_eq K 198 188 at_185 (by decide) rfl (fun c185 => ?_) (fun c185 => ?_)
              · skip
                exact absurd c185 (by decide)
              · skip
                refine WP.dload K 190 at_188 rfl rfl ?_
                refine WP.iload K 192 at_190 rfl rfl ?_
                refine WP.i2d K 193 at_192 rfl ?_
                refine WP.dconst1 K 194 at_193 rfl ?_
                refine WP.ddiv K 195 at_194 rfl (by unfold NoNaN64; decide +kernel) ?_
                refine WP.dadd K 196 at_195 rfl (by unfold NoNaN64; decide +kernel) ?_
                refine WP.dstore K 198 [.val (.int g1), .val (.int g2), .val (.int g3), .val (.int g4), .val (.int sh), .val (.int nn), .val (.int rr), .val (.ref ga), .val (.ref ia), .val (.double gt), .second, .val (.int (1 : Int32)), .val (.int (0 : Int32)), .val (.int (0 : Int32)), .val (.int (1 : Int32)), .val (.int (1 : Int32)), .val (.int ((1 : Int32) + (0 : Int32))), .val (.int (((1 : Int32) + (0 : Int32)) + (0 : Int32))), .val (.int ((((1 : Int32) + (0 : Int32)) + (0 : Int32)) + (1 : Int32))), .val (.double (FP.dadd FP.dconst0 (FP.ddiv (FP.i2d (1 : Int32)) FP.dconst1))), .second, .unset, .unset] at_196 rfl rfl ?_
                refine WP.iload K 200 at_198 rfl rfl ?_
                refine WP.if_eq K 215 203 at_200 (by decide) rfl (fun c200 => ?_) (fun c200 => ?_)
                · skip
                  refine WP.iload K 217 at_215 rfl rfl ?_
                  refine WP.if_eq K 232 220 at_217 (by decide) rfl (fun c217 => ?_) (fun c217 => ?_)
                  · skip
                    refine WP.iload K 234 at_232 rfl rfl ?_
                    refine WP.if_eq K 249 237 at_234 (by decide) rfl (fun c234 => ?_) (fun c234 => ?_)
                    · skip
                      exact absurd c234 (by decide)
                    · skip
                      refine WP.dload K 239 at_237 rfl rfl ?_
                      refine WP.iload K 241 at_239 rfl rfl ?_
                      refine WP.i2d K 242 at_241 rfl ?_
                      refine WP.ldc2D K (v := (4616189618054758400 : UInt64)) 245 (hw _ (List.mem_of_getElem? (i := 33) rfl)) at_242 rfl ?_
                      refine WP.ddiv K 246 at_245 rfl (by unfold NoNaN64; decide +kernel) ?_
                      refine WP.dadd K 247 at_246 rfl (by unfold NoNaN64; decide +kernel) ?_
                      refine WP.dstore K 249 [.val (.int g1), .val (.int g2), .val (.int g3), .val (.int g4), .val (.int sh), .val (.int nn), .val (.int rr), .val (.ref ga), .val (.ref ia), .val (.double gt), .second, .val (.int (1 : Int32)), .val (.int (0 : Int32)), .val (.int (0 : Int32)), .val (.int (1 : Int32)), .val (.int (1 : Int32)), .val (.int ((1 : Int32) + (0 : Int32))), .val (.int (((1 : Int32) + (0 : Int32)) + (0 : Int32))), .val (.int ((((1 : Int32) + (0 : Int32)) + (0 : Int32)) + (1 : Int32))), .val (.double (FP.dadd (FP.dadd FP.dconst0 (FP.ddiv (FP.i2d (1 : Int32)) FP.dconst1)) (FP.ddiv (FP.i2d ((((1 : Int32) + (0 : Int32)) + (0 : Int32)) + (1 : Int32))) (4616189618054758400 : UInt64)))), .second, .unset, .unset] at_247 rfl rfl ?_
                      exact J249 _ _ _ _ _ (by rw [show decide (1 ≤ n ∧ 0 < g1.toInt) = true from decide_eq_true d1, show decide (2 ≤ n ∧ 0 < g2.toInt) = false from decide_eq_false d2, show decide (3 ≤ n ∧ 0 < g3.toInt) = false from decide_eq_false d3, show decide (4 ≤ n ∧ 0 < g4.toInt) = true from decide_eq_true d4]; decide +kernel)
                  · skip
                    exact absurd c217 (by decide)
                · skip
                  exact absurd c200 (by decide)
          · skip
            exact absurd c154 (by decide)
        · skip
          exact absurd c139 (by decide)
    · skip
      refine WP.iload K 125 at_123 rfl rfl ?_
      refine WP.if_eq K 132 128 at_125 (by decide) rfl (fun c125 => ?_) (fun c125 => ?_)
      · skip
        exact absurd c125 (by decide)
      · skip
        refine WP.iconst K (1 : Int32) 129 at_128 rfl rfl ?_
        refine WP.goto K 133 at_129 (by decide) ?_
        refine WP.istore K 135 [.val (.int g1), .val (.int g2), .val (.int g3), .val (.int g4), .val (.int sh), .val (.int nn), .val (.int rr), .val (.ref ga), .val (.ref ia), .val (.double gt), .second, .val (.int (1 : Int32)), .val (.int (0 : Int32)), .val (.int (0 : Int32)), .val (.int (0 : Int32)), .val (.int (1 : Int32)), .unset, .unset, .unset, .unset, .unset, .unset, .unset] at_133 rfl rfl ?_
        refine WP.iload K 137 at_135 rfl rfl ?_
        refine WP.iload K 139 at_137 rfl rfl ?_
        refine WP.if_eq K 146 142 at_139 (by decide) rfl (fun c139 => ?_) (fun c139 => ?_)
        · skip
          refine WP.iconst K (0 : Int32) 147 at_146 rfl rfl ?_
          refine WP.iadd K 148 at_147 rfl ?_
          refine WP.istore K 150 [.val (.int g1), .val (.int g2), .val (.int g3), .val (.int g4), .val (.int sh), .val (.int nn), .val (.int rr), .val (.ref ga), .val (.ref ia), .val (.double gt), .second, .val (.int (1 : Int32)), .val (.int (0 : Int32)), .val (.int (0 : Int32)), .val (.int (0 : Int32)), .val (.int (1 : Int32)), .val (.int ((1 : Int32) + (0 : Int32))), .unset, .unset, .unset, .unset, .unset, .unset] at_148 rfl rfl ?_
          refine WP.iload K 152 at_150 rfl rfl ?_
          refine WP.iload K 154 at_152 rfl rfl ?_
          refine WP.if_eq K 161 157 at_154 (by decide) rfl (fun c154 => ?_) (fun c154 => ?_)
          · skip
            refine WP.iconst K (0 : Int32) 162 at_161 rfl rfl ?_
            refine WP.iadd K 163 at_162 rfl ?_
            refine WP.istore K 165 [.val (.int g1), .val (.int g2), .val (.int g3), .val (.int g4), .val (.int sh), .val (.int nn), .val (.int rr), .val (.ref ga), .val (.ref ia), .val (.double gt), .second, .val (.int (1 : Int32)), .val (.int (0 : Int32)), .val (.int (0 : Int32)), .val (.int (0 : Int32)), .val (.int (1 : Int32)), .val (.int ((1 : Int32) + (0 : Int32))), .val (.int (((1 : Int32) + (0 : Int32)) + (0 : Int32))), .unset, .unset, .unset, .unset, .unset] at_163 rfl rfl ?_
            refine WP.iload K 167 at_165 rfl rfl ?_
            refine WP.iload K 169 at_167 rfl rfl ?_
            refine WP.if_eq K 176 172 at_169 (by decide) rfl (fun c169 => ?_) (fun c169 => ?_)
            · skip
              refine WP.iconst K (0 : Int32) 177 at_176 rfl rfl ?_
              refine WP.iadd K 178 at_177 rfl ?_
              refine WP.istore K 180 [.val (.int g1), .val (.int g2), .val (.int g3), .val (.int g4), .val (.int sh), .val (.int nn), .val (.int rr), .val (.ref ga), .val (.ref ia), .val (.double gt), .second, .val (.int (1 : Int32)), .val (.int (0 : Int32)), .val (.int (0 : Int32)), .val (.int (0 : Int32)), .val (.int (1 : Int32)), .val (.int ((1 : Int32) + (0 : Int32))), .val (.int (((1 : Int32) + (0 : Int32)) + (0 : Int32))), .val (.int ((((1 : Int32) + (0 : Int32)) + (0 : Int32)) + (0 : Int32))), .unset, .unset, .unset, .unset] at_178 rfl rfl ?_
              refine WP.dconst0 K 181 at_180 rfl ?_
              refine WP.dstore K 183 [.val (.int g1), .val (.int g2), .val (.int g3), .val (.int g4), .val (.int sh), .val (.int nn), .val (.int rr), .val (.ref ga), .val (.ref ia), .val (.double gt), .second, .val (.int (1 : Int32)), .val (.int (0 : Int32)), .val (.int (0 : Int32)), .val (.int (0 : Int32)), .val (.int (1 : Int32)), .val (.int ((1 : Int32) + (0 : Int32))), .val (.int (((1 : Int32) + (0 : Int32)) + (0 : Int32))), .val (.int ((((1 : Int32) + (0 : Int32)) + (0 : Int32)) + (0 : Int32))), .val (.double FP.dconst0), .second, .unset, .unset] at_181 rfl rfl ?_
              refine WP.iload K 185 at_183 rfl rfl ?_
              refine WP.if_eq K 198 188 at_185 (by decide) rfl (fun c185 => ?_) (fun c185 => ?_)
              · skip
                exact absurd c185 (by decide)
              · skip
                refine WP.dload K 190 at_188 rfl rfl ?_
                refine WP.iload K 192 at_190 rfl rfl ?_
                refine WP.i2d K 193 at_192 rfl ?_
                refine WP.dconst1 K 194 at_193 rfl ?_
                refine WP.ddiv K 195 at_194 rfl (by unfold NoNaN64; decide +kernel) ?_
                refine WP.dadd K 196 at_195 rfl (by unfold NoNaN64; decide +kernel) ?_
                refine WP.dstore K 198 [.val (.int g1), .val (.int g2), .val (.int g3), .val (.int g4), .val (.int sh), .val (.int nn), .val (.int rr), .val (.ref ga), .val (.ref ia), .val (.double gt), .second, .val (.int (1 : Int32)), .val (.int (0 : Int32)), .val (.int (0 : Int32)), .val (.int (0 : Int32)), .val (.int (1 : Int32)), .val (.int ((1 : Int32) + (0 : Int32))), .val (.int (((1 : Int32) + (0 : Int32)) + (0 : Int32))), .val (.int ((((1 : Int32) + (0 : Int32)) + (0 : Int32)) + (0 : Int32))), .val (.double (FP.dadd FP.dconst0 (FP.ddiv (FP.i2d (1 : Int32)) FP.dconst1))), .second, .unset, .unset] at_196 rfl rfl ?_
                refine WP.iload K 200 at_198 rfl rfl ?_
                refine WP.if_eq K 215 203 at_200 (by decide) rfl (fun c200 => ?_) (fun c200 => ?_)
                · skip
                  refine WP.iload K 217 at_215 rfl rfl ?_
                  refine WP.if_eq K 232 220 at_217 (by decide) rfl (fun c217 => ?_) (fun c217 => ?_)
                  · skip
                    refine WP.iload K 234 at_232 rfl rfl ?_
                    refine WP.if_eq K 249 237 at_234 (by decide) rfl (fun c234 => ?_) (fun c234 => ?_)
                    · skip
                      exact J249 _ _ _ _ _ (by rw [show decide (1 ≤ n ∧ 0 < g1.toInt) = true from decide_eq_true d1, show decide (2 ≤ n ∧ 0 < g2.toInt) = false from decide_eq_false d2, show decide (3 ≤ n ∧ 0 < g3.toInt) = false from decide_eq_false d3, show decide (4 ≤ n ∧ 0 < g4.toInt) = false from decide_eq_false d4]; decide +kernel)
                    · skip
                      exact absurd c234 (by decide)
                  · skip
                    exact absurd c217 (by decide)
                · skip
                  exact absurd c200 (by decide)
            · skip
              exact absurd c169 (by decide)
          · skip
            exact absurd c154 (by decide)
        · skip
          exact absurd c139 (by decide)
    · skip
      refine WP.iload K 125 at_123 rfl rfl ?_
      refine WP.if_eq K 132 128 at_125 (by decide) rfl (fun c125 => ?_) (fun c125 => ?_)
      · skip
        refine WP.iconst K (0 : Int32) 133 at_132 rfl rfl ?_
        refine WP.istore K 135 [.val (.int g1), .val (.int g2), .val (.int g3), .val (.int g4), .val (.int sh), .val (.int nn), .val (.int rr), .val (.ref ga), .val (.ref ia), .val (.double gt), .second, .val (.int (0 : Int32)), .val (.int (1 : Int32)), .val (.int (1 : Int32)), .val (.int (1 : Int32)), .val (.int (0 : Int32)), .unset, .unset, .unset, .unset, .unset, .unset, .unset] at_133 rfl rfl ?_
        refine WP.iload K 137 at_135 rfl rfl ?_
        refine WP.iload K 139 at_137 rfl rfl ?_
        refine WP.if_eq K 146 142 at_139 (by decide) rfl (fun c139 => ?_) (fun c139 => ?_)
        · skip
          exact absurd c139 (by decide)
        · skip
          refine WP.iconst K (1 : Int32) 143 at_142 rfl rfl ?_
          refine WP.goto K 147 at_143 (by decide) ?_
          refine WP.iadd K 148 at_147 rfl ?_
          refine WP.istore K 150 [.val (.int g1), .val (.int g2), .val (.int g3), .val (.int g4), .val (.int sh), .val (.int nn), .val (.int rr), .val (.ref ga), .val (.ref ia), .val (.double gt), .second, .val (.int (0 : Int32)), .val (.int (1 : Int32)), .val (.int (1 : Int32)), .val (.int (1 : Int32)), .val (.int (0 : Int32)), .val (.int ((0 : Int32) + (1 : Int32))), .unset, .unset, .unset, .unset, .unset, .unset] at_148 rfl rfl ?_
          refine WP.iload K 152 at_150 rfl rfl ?_
          refine WP.iload K 154 at_152 rfl rfl ?_
          refine WP.if_eq K 161 157 at_154 (by decide) rfl (fun c154 => ?_) (fun c154 => ?_)
          · skip
            exact absurd c154 (by decide)
          · skip
            refine WP.iconst K (1 : Int32) 158 at_157 rfl rfl ?_
            refine WP.goto K 162 at_158 (by decide) ?_
            refine WP.iadd K 163 at_162 rfl ?_
            refine WP.istore K 165 [.val (.int g1), .val (.int g2), .val (.int g3), .val (.int g4), .val (.int sh), .val (.int nn), .val (.int rr), .val (.ref ga), .val (.ref ia), .val (.double gt), .second, .val (.int (0 : Int32)), .val (.int (1 : Int32)), .val (.int (1 : Int32)), .val (.int (1 : Int32)), .val (.int (0 : Int32)), .val (.int ((0 : Int32) + (1 : Int32))), .val (.int (((0 : Int32) + (1 : Int32)) + (1 : Int32))), .unset, .unset, .unset, .unset, .unset] at_163 rfl rfl ?_
            refine WP.iload K 167 at_165 rfl rfl ?_
            refine WP.iload K 169 at_167 rfl rfl ?_
            refine WP.if_eq K 176 172 at_169 (by decide) rfl (fun c169 => ?_) (fun c169 => ?_)
            · skip
              exact absurd c169 (by decide)
            · skip
              refine WP.iconst K (1 : Int32) 173 at_172 rfl rfl ?_
              refine WP.goto K 177 at_173 (by decide) ?_
              refine WP.iadd K 178 at_177 rfl ?_
              refine WP.istore K 180 [.val (.int g1), .val (.int g2), .val (.int g3), .val (.int g4), .val (.int sh), .val (.int nn), .val (.int rr), .val (.ref ga), .val (.ref ia), .val (.double gt), .second, .val (.int (0 : Int32)), .val (.int (1 : Int32)), .val (.int (1 : Int32)), .val (.int (1 : Int32)), .val (.int (0 : Int32)), .val (.int ((0 : Int32) + (1 : Int32))), .val (.int (((0 : Int32) + (1 : Int32)) + (1 : Int32))), .val (.int ((((0 : Int32) + (1 : Int32)) + (1 : Int32)) + (1 : Int32))), .unset, .unset, .unset, .unset] at_178 rfl rfl ?_
              refine WP.dconst0 K 181 at_180 rfl ?_
              refine WP.dstore K 183 [.val (.int g1), .val (.int g2), .val (.int g3), .val (.int g4), .val (.int sh), .val (.int nn), .val (.int rr), .val (.ref ga), .val (.ref ia), .val (.double gt), .second, .val (.int (0 : Int32)), .val (.int (1 : Int32)), .val (.int (1 : Int32)), .val (.int (1 : Int32)), .val (.int (0 : Int32)), .val (.int ((0 : Int32) + (1 : Int32))), .val (.int (((0 : Int32) + (1 : Int32)) + (1 : Int32))), .val (.int ((((0 : Int32) + (1 : Int32)) + (1 : Int32)) + (1 : Int32))), .val (.double FP.dconst0), .second, .unset, .unset] at_181 rfl rfl ?_
              refine WP.iload K 185 at_183 rfl rfl ?_
              refine WP.if_eq K 198 188 at_185 (by decide) rfl (fun c185 => ?_) (fun c185 => ?_)
              · skip
                refine WP.iload K 200 at_198 rfl rfl ?_
                refine WP.if_eq K 215 203 at_200 (by decide) rfl (fun c200 => ?_) (fun c200 => ?_)
                · skip
                  exact absurd c200 (by decide)
                · skip
                  refine WP.dload K 205 at_203 rfl rfl ?_
                  refine WP.iload K 207 at_205 rfl rfl ?_
                  refine WP.i2d K 208 at_207 rfl ?_
                  refine WP.ldc2D K (v := (4611686018427387904 : UInt64)) 211 (hw _ (List.mem_of_getElem? (i := 31) rfl)) at_208 rfl ?_
                  refine WP.ddiv K 212 at_211 rfl (by unfold NoNaN64; decide +kernel) ?_
                  refine WP.dadd K 213 at_212 rfl (by unfold NoNaN64; decide +kernel) ?_
                  refine WP.dstore K 215 [.val (.int g1), .val (.int g2), .val (.int g3), .val (.int g4), .val (.int sh), .val (.int nn), .val (.int rr), .val (.ref ga), .val (.ref ia), .val (.double gt), .second, .val (.int (0 : Int32)), .val (.int (1 : Int32)), .val (.int (1 : Int32)), .val (.int (1 : Int32)), .val (.int (0 : Int32)), .val (.int ((0 : Int32) + (1 : Int32))), .val (.int (((0 : Int32) + (1 : Int32)) + (1 : Int32))), .val (.int ((((0 : Int32) + (1 : Int32)) + (1 : Int32)) + (1 : Int32))), .val (.double (FP.dadd FP.dconst0 (FP.ddiv (FP.i2d ((0 : Int32) + (1 : Int32))) (4611686018427387904 : UInt64)))), .second, .unset, .unset] at_213 rfl rfl ?_
                  refine WP.iload K 217 at_215 rfl rfl ?_
                  refine WP.if_eq K 232 220 at_217 (by decide) rfl (fun c217 => ?_) (fun c217 => ?_)
                  · skip
                    exact absurd c217 (by decide)
                  · skip
                    refine WP.dload K 222 at_220 rfl rfl ?_
                    refine WP.iload K 224 at_222 rfl rfl ?_
                    refine WP.i2d K 225 at_224 rfl ?_
                    refine WP.ldc2D K (v := (4613937818241073152 : UInt64)) 228 (hw _ (List.mem_of_getElem? (i := 32) rfl)) at_225 rfl ?_
                    refine WP.ddiv K 229 at_228 rfl (by unfold NoNaN64; decide +kernel) ?_
                    refine WP.dadd K 230 at_229 rfl (by unfold NoNaN64; decide +kernel) ?_
                    refine WP.dstore K 232 [.val (.int g1), .val (.int g2), .val (.int g3), .val (.int g4), .val (.int sh), .val (.int nn), .val (.int rr), .val (.ref ga), .val (.ref ia), .val (.double gt), .second, .val (.int (0 : Int32)), .val (.int (1 : Int32)), .val (.int (1 : Int32)), .val (.int (1 : Int32)), .val (.int (0 : Int32)), .val (.int ((0 : Int32) + (1 : Int32))), .val (.int (((0 : Int32) + (1 : Int32)) + (1 : Int32))), .val (.int ((((0 : Int32) + (1 : Int32)) + (1 : Int32)) + (1 : Int32))), .val (.double (FP.dadd (FP.dadd FP.dconst0 (FP.ddiv (FP.i2d ((0 : Int32) + (1 : Int32))) (4611686018427387904 : UInt64))) (FP.ddiv (FP.i2d (((0 : Int32) + (1 : Int32)) + (1 : Int32))) (4613937818241073152 : UInt64)))), .second, .unset, .unset] at_230 rfl rfl ?_
                    refine WP.iload K 234 at_232 rfl rfl ?_
                    refine WP.if_eq K 249 237 at_234 (by decide) rfl (fun c234 => ?_) (fun c234 => ?_)
                    · skip
                      exact absurd c234 (by decide)
                    · skip
                      refine WP.dload K 239 at_237 rfl rfl ?_
                      refine WP.iload K 241 at_239 rfl rfl ?_
                      refine WP.i2d K 242 at_241 rfl ?_
                      refine WP.ldc2D K (v := (4616189618054758400 : UInt64)) 245 (hw _ (List.mem_of_getElem? (i := 33) rfl)) at_242 rfl ?_
                      refine WP.ddiv K 246 at_245 rfl (by unfold NoNaN64; decide +kernel) ?_
                      refine WP.dadd K 247 at_246 rfl (by unfold NoNaN64; decide +kernel) ?_
                      refine WP.dstore K 249 [.val (.int g1), .val (.int g2), .val (.int g3), .val (.int g4), .val (.int sh), .val (.int nn), .val (.int rr), .val (.ref ga), .val (.ref ia), .val (.double gt), .second, .val (.int (0 : Int32)), .val (.int (1 : Int32)), .val (.int (1 : Int32)), .val (.int (1 : Int32)), .val (.int (0 : Int32)), .val (.int ((0 : Int32) + (1 : Int32))), .val (.int (((0 : Int32) + (1 : Int32)) + (1 : Int32))), .val (.int ((((0 : Int32) + (1 : Int32)) + (1 : Int32)) + (1 : Int32))), .val (.double (FP.dadd (FP.dadd (FP.dadd FP.dconst0 (FP.ddiv (FP.i2d ((0 : Int32) + (1 : Int32))) (4611686018427387904 : UInt64))) (FP.ddiv (FP.i2d (((0 : Int32) + (1 : Int32)) + (1 : Int32))) (4613937818241073152 : UInt64))) (FP.ddiv (FP.i2d ((((0 : Int32) + (1 : Int32)) + (1 : Int32)) + (1 : Int32))) (4616189618054758400 : UInt64)))), .second, .unset, .unset] at_247 rfl rfl ?_
                      exact J249 _ _ _ _ _ (by rw [show decide (1 ≤ n ∧ 0 < g1.toInt) = false from decide_eq_false d1, show decide (2 ≤ n ∧ 0 < g2.toInt) = true from decide_eq_true d2, show decide (3 ≤ n ∧ 0 < g3.toInt) = true from decide_eq_true d3, show decide (4 ≤ n ∧ 0 < g4.toInt) = true from decide_eq_true d4]; decide +kernel)
              · skip
                exact absurd c185 (by decide)
      · skip
        exact absurd c125 (by decide)
    · skip
      refine WP.iload K 125 at_123 rfl rfl ?_
      refine WP.if_eq K 132 128 at_125 (by decide) rfl (fun c125 => ?_) (fun c125 => ?_)
      · skip
        refine WP.iconst K (0 : Int32) 133 at_132 rfl rfl ?_
        refine WP.istore K 135 [.val (.int g1), .val (.int g2), .val (.int g3), .val (.int g4), .val (.int sh), .val (.int nn), .val (.int rr), .val (.ref ga), .val (.ref ia), .val (.double gt), .second, .val (.int (0 : Int32)), .val (.int (1 : Int32)), .val (.int (1 : Int32)), .val (.int (0 : Int32)), .val (.int (0 : Int32)), .unset, .unset, .unset, .unset, .unset, .unset, .unset] at_133 rfl rfl ?_
        refine WP.iload K 137 at_135 rfl rfl ?_
        refine WP.iload K 139 at_137 rfl rfl ?_
        refine WP.if_eq K 146 142 at_139 (by decide) rfl (fun c139 => ?_) (fun c139 => ?_)
        · skip
          exact absurd c139 (by decide)
        · skip
          refine WP.iconst K (1 : Int32) 143 at_142 rfl rfl ?_
          refine WP.goto K 147 at_143 (by decide) ?_
          refine WP.iadd K 148 at_147 rfl ?_
          refine WP.istore K 150 [.val (.int g1), .val (.int g2), .val (.int g3), .val (.int g4), .val (.int sh), .val (.int nn), .val (.int rr), .val (.ref ga), .val (.ref ia), .val (.double gt), .second, .val (.int (0 : Int32)), .val (.int (1 : Int32)), .val (.int (1 : Int32)), .val (.int (0 : Int32)), .val (.int (0 : Int32)), .val (.int ((0 : Int32) + (1 : Int32))), .unset, .unset, .unset, .unset, .unset, .unset] at_148 rfl rfl ?_
          refine WP.iload K 152 at_150 rfl rfl ?_
          refine WP.iload K 154 at_152 rfl rfl ?_
          refine WP.if_eq K 161 157 at_154 (by decide) rfl (fun c154 => ?_) (fun c154 => ?_)
          · skip
            exact absurd c154 (by decide)
          · skip
            refine WP.iconst K (1 : Int32) 158 at_157 rfl rfl ?_
            refine WP.goto K 162 at_158 (by decide) ?_
            refine WP.iadd K 163 at_162 rfl ?_
            refine WP.istore K 165 [.val (.int g1), .val (.int g2), .val (.int g3), .val (.int g4), .val (.int sh), .val (.int nn), .val (.int rr), .val (.ref ga), .val (.ref ia), .val (.double gt), .second, .val (.int (0 : Int32)), .val (.int (1 : Int32)), .val (.int (1 : Int32)), .val (.int (0 : Int32)), .val (.int (0 : Int32)), .val (.int ((0 : Int32) + (1 : Int32))), .val (.int (((0 : Int32) + (1 : Int32)) + (1 : Int32))), .unset, .unset, .unset, .unset, .unset] at_163 rfl rfl ?_
            refine WP.iload K 167 at_165 rfl rfl ?_
            refine WP.iload K 169 at_167 rfl rfl ?_
            refine WP.if_eq K 176 172 at_169 (by decide) rfl (fun c169 => ?_) (fun c169 => ?_)
            · skip
              refine WP.iconst K (0 : Int32) 177 at_176 rfl rfl ?_
              refine WP.iadd K 178 at_177 rfl ?_
              refine WP.istore K 180 [.val (.int g1), .val (.int g2), .val (.int g3), .val (.int g4), .val (.int sh), .val (.int nn), .val (.int rr), .val (.ref ga), .val (.ref ia), .val (.double gt), .second, .val (.int (0 : Int32)), .val (.int (1 : Int32)), .val (.int (1 : Int32)), .val (.int (0 : Int32)), .val (.int (0 : Int32)), .val (.int ((0 : Int32) + (1 : Int32))), .val (.int (((0 : Int32) + (1 : Int32)) + (1 : Int32))), .val (.int ((((0 : Int32) + (1 : Int32)) + (1 : Int32)) + (0 : Int32))), .unset, .unset, .unset, .unset] at_178 rfl rfl ?_
              refine WP.dconst0 K 181 at_180 rfl ?_
              refine WP.dstore K 183 [.val (.int g1), .val (.int g2), .val (.int g3), .val (.int g4), .val (.int sh), .val (.int nn), .val (.int rr), .val (.ref ga), .val (.ref ia), .val (.double gt), .second, .val (.int (0 : Int32)), .val (.int (1 : Int32)), .val (.int (1 : Int32)), .val (.int (0 : Int32)), .val (.int (0 : Int32)), .val (.int ((0 : Int32) + (1 : Int32))), .val (.int (((0 : Int32) + (1 : Int32)) + (1 : Int32))), .val (.int ((((0 : Int32) + (1 : Int32)) + (1 : Int32)) + (0 : Int32))), .val (.double FP.dconst0), .second, .unset, .unset] at_181 rfl rfl ?_
              refine WP.iload K 185 at_183 rfl rfl ?_
              refine WP.if_eq K 198 188 at_185 (by decide) rfl (fun c185 => ?_) (fun c185 => ?_)
              · skip
                refine WP.iload K 200 at_198 rfl rfl ?_
                refine WP.if_eq K 215 203 at_200 (by decide) rfl (fun c200 => ?_) (fun c200 => ?_)
                · skip
                  exact absurd c200 (by decide)
                · skip
                  refine WP.dload K 205 at_203 rfl rfl ?_
                  refine WP.iload K 207 at_205 rfl rfl ?_
                  refine WP.i2d K 208 at_207 rfl ?_
                  refine WP.ldc2D K (v := (4611686018427387904 : UInt64)) 211 (hw _ (List.mem_of_getElem? (i := 31) rfl)) at_208 rfl ?_
                  refine WP.ddiv K 212 at_211 rfl (by unfold NoNaN64; decide +kernel) ?_
                  refine WP.dadd K 213 at_212 rfl (by unfold NoNaN64; decide +kernel) ?_
                  refine WP.dstore K 215 [.val (.int g1), .val (.int g2), .val (.int g3), .val (.int g4), .val (.int sh), .val (.int nn), .val (.int rr), .val (.ref ga), .val (.ref ia), .val (.double gt), .second, .val (.int (0 : Int32)), .val (.int (1 : Int32)), .val (.int (1 : Int32)), .val (.int (0 : Int32)), .val (.int (0 : Int32)), .val (.int ((0 : Int32) + (1 : Int32))), .val (.int (((0 : Int32) + (1 : Int32)) + (1 : Int32))), .val (.int ((((0 : Int32) + (1 : Int32)) + (1 : Int32)) + (0 : Int32))), .val (.double (FP.dadd FP.dconst0 (FP.ddiv (FP.i2d ((0 : Int32) + (1 : Int32))) (4611686018427387904 : UInt64)))), .second, .unset, .unset] at_213 rfl rfl ?_
                  refine WP.iload K 217 at_215 rfl rfl ?_
                  refine WP.if_eq K 232 220 at_217 (by decide) rfl (fun c217 => ?_) (fun c217 => ?_)
                  · skip
                    exact absurd c217 (by decide)
                  · skip
                    refine WP.dload K 222 at_220 rfl rfl ?_
                    refine WP.iload K 224 at_222 rfl rfl ?_
                    refine WP.i2d K 225 at_224 rfl ?_
                    refine WP.ldc2D K (v := (4613937818241073152 : UInt64)) 228 (hw _ (List.mem_of_getElem? (i := 32) rfl)) at_225 rfl ?_
                    refine WP.ddiv K 229 at_228 rfl (by unfold NoNaN64; decide +kernel) ?_
                    refine WP.dadd K 230 at_229 rfl (by unfold NoNaN64; decide +kernel) ?_
                    refine WP.dstore K 232 [.val (.int g1), .val (.int g2), .val (.int g3), .val (.int g4), .val (.int sh), .val (.int nn), .val (.int rr), .val (.ref ga), .val (.ref ia), .val (.double gt), .second, .val (.int (0 : Int32)), .val (.int (1 : Int32)), .val (.int (1 : Int32)), .val (.int (0 : Int32)), .val (.int (0 : Int32)), .val (.int ((0 : Int32) + (1 : Int32))), .val (.int (((0 : Int32) + (1 : Int32)) + (1 : Int32))), .val (.int ((((0 : Int32) + (1 : Int32)) + (1 : Int32)) + (0 : Int32))), .val (.double (FP.dadd (FP.dadd FP.dconst0 (FP.ddiv (FP.i2d ((0 : Int32) + (1 : Int32))) (4611686018427387904 : UInt64))) (FP.ddiv (FP.i2d (((0 : Int32) + (1 : Int32)) + (1 : Int32))) (4613937818241073152 : UInt64)))), .second, .unset, .unset] at_230 rfl rfl ?_
                    refine WP.iload K 234 at_232 rfl rfl ?_
                    refine WP.if_eq K 249 237 at_234 (by decide) rfl (fun c234 => ?_) (fun c234 => ?_)
                    · skip
                      exact J249 _ _ _ _ _ (by rw [show decide (1 ≤ n ∧ 0 < g1.toInt) = false from decide_eq_false d1, show decide (2 ≤ n ∧ 0 < g2.toInt) = true from decide_eq_true d2, show decide (3 ≤ n ∧ 0 < g3.toInt) = true from decide_eq_true d3, show decide (4 ≤ n ∧ 0 < g4.toInt) = false from decide_eq_false d4]; decide +kernel)
                    · skip
                      exact absurd c234 (by decide)
              · skip
                exact absurd c185 (by decide)
            · skip
              exact absurd c169 (by decide)
      · skip
        exact absurd c125 (by decide)
    · skip
      refine WP.iload K 125 at_123 rfl rfl ?_
      refine WP.if_eq K 132 128 at_125 (by decide) rfl (fun c125 => ?_) (fun c125 => ?_)
      · skip
        refine WP.iconst K (0 : Int32) 133 at_132 rfl rfl ?_
        refine WP.istore K 135 [.val (.int g1), .val (.int g2), .val (.int g3), .val (.int g4), .val (.int sh), .val (.int nn), .val (.int rr), .val (.ref ga), .val (.ref ia), .val (.double gt), .second, .val (.int (0 : Int32)), .val (.int (1 : Int32)), .val (.int (0 : Int32)), .val (.int (1 : Int32)), .val (.int (0 : Int32)), .unset, .unset, .unset, .unset, .unset, .unset, .unset] at_133 rfl rfl ?_
        refine WP.iload K 137 at_135 rfl rfl ?_
        refine WP.iload K 139 at_137 rfl rfl ?_
        refine WP.if_eq K 146 142 at_139 (by decide) rfl (fun c139 => ?_) (fun c139 => ?_)
        · skip
          exact absurd c139 (by decide)
        · skip
          refine WP.iconst K (1 : Int32) 143 at_142 rfl rfl ?_
          refine WP.goto K 147 at_143 (by decide) ?_
          refine WP.iadd K 148 at_147 rfl ?_
          refine WP.istore K 150 [.val (.int g1), .val (.int g2), .val (.int g3), .val (.int g4), .val (.int sh), .val (.int nn), .val (.int rr), .val (.ref ga), .val (.ref ia), .val (.double gt), .second, .val (.int (0 : Int32)), .val (.int (1 : Int32)), .val (.int (0 : Int32)), .val (.int (1 : Int32)), .val (.int (0 : Int32)), .val (.int ((0 : Int32) + (1 : Int32))), .unset, .unset, .unset, .unset, .unset, .unset] at_148 rfl rfl ?_
          refine WP.iload K 152 at_150 rfl rfl ?_
          refine WP.iload K 154 at_152 rfl rfl ?_
          refine WP.if_eq K 161 157 at_154 (by decide) rfl (fun c154 => ?_) (fun c154 => ?_)
          · skip
            refine WP.iconst K (0 : Int32) 162 at_161 rfl rfl ?_
            refine WP.iadd K 163 at_162 rfl ?_
            refine WP.istore K 165 [.val (.int g1), .val (.int g2), .val (.int g3), .val (.int g4), .val (.int sh), .val (.int nn), .val (.int rr), .val (.ref ga), .val (.ref ia), .val (.double gt), .second, .val (.int (0 : Int32)), .val (.int (1 : Int32)), .val (.int (0 : Int32)), .val (.int (1 : Int32)), .val (.int (0 : Int32)), .val (.int ((0 : Int32) + (1 : Int32))), .val (.int (((0 : Int32) + (1 : Int32)) + (0 : Int32))), .unset, .unset, .unset, .unset, .unset] at_163 rfl rfl ?_
            refine WP.iload K 167 at_165 rfl rfl ?_
            refine WP.iload K 169 at_167 rfl rfl ?_
            refine WP.if_eq K 176 172 at_169 (by decide) rfl (fun c169 => ?_) (fun c169 => ?_)
            · skip
              exact absurd c169 (by decide)
            · skip
              refine WP.iconst K (1 : Int32) 173 at_172 rfl rfl ?_
              refine WP.goto K 177 at_173 (by decide) ?_
              refine WP.iadd K 178 at_177 rfl ?_
              refine WP.istore K 180 [.val (.int g1), .val (.int g2), .val (.int g3), .val (.int g4), .val (.int sh), .val (.int nn), .val (.int rr), .val (.ref ga), .val (.ref ia), .val (.double gt), .second, .val (.int (0 : Int32)), .val (.int (1 : Int32)), .val (.int (0 : Int32)), .val (.int (1 : Int32)), .val (.int (0 : Int32)), .val (.int ((0 : Int32) + (1 : Int32))), .val (.int (((0 : Int32) + (1 : Int32)) + (0 : Int32))), .val (.int ((((0 : Int32) + (1 : Int32)) + (0 : Int32)) + (1 : Int32))), .unset, .unset, .unset, .unset] at_178 rfl rfl ?_
              refine WP.dconst0 K 181 at_180 rfl ?_
              refine WP.dstore K 183 [.val (.int g1), .val (.int g2), .val (.int g3), .val (.int g4), .val (.int sh), .val (.int nn), .val (.int rr), .val (.ref ga), .val (.ref ia), .val (.double gt), .second, .val (.int (0 : Int32)), .val (.int (1 : Int32)), .val (.int (0 : Int32)), .val (.int (1 : Int32)), .val (.int (0 : Int32)), .val (.int ((0 : Int32) + (1 : Int32))), .val (.int (((0 : Int32) + (1 : Int32)) + (0 : Int32))), .val (.int ((((0 : Int32) + (1 : Int32)) + (0 : Int32)) + (1 : Int32))), .val (.double FP.dconst0), .second, .unset, .unset] at_181 rfl rfl ?_
              refine WP.iload K 185 at_183 rfl rfl ?_
              refine WP.if_eq K 198 188 at_185 (by decide) rfl (fun c185 => ?_) (fun c185 => ?_)
              · skip
                refine WP.iload K 200 at_198 rfl rfl ?_
                refine WP.if_eq K 215 203 at_200 (by decide) rfl (fun c200 => ?_) (fun c200 => ?_)
                · skip
                  exact absurd c200 (by decide)
                · skip
                  refine WP.dload K 205 at_203 rfl rfl ?_
                  refine WP.iload K 207 at_205 rfl rfl ?_
                  refine WP.i2d K 208 at_207 rfl ?_
                  refine WP.ldc2D K (v := (4611686018427387904 : UInt64)) 211 (hw _ (List.mem_of_getElem? (i := 31) rfl)) at_208 rfl ?_
                  refine WP.ddiv K 212 at_211 rfl (by unfold NoNaN64; decide +kernel) ?_
                  refine WP.dadd K 213 at_212 rfl (by unfold NoNaN64; decide +kernel) ?_
                  refine WP.dstore K 215 [.val (.int g1), .val (.int g2), .val (.int g3), .val (.int g4), .val (.int sh), .val (.int nn), .val (.int rr), .val (.ref ga), .val (.ref ia), .val (.double gt), .second, .val (.int (0 : Int32)), .val (.int (1 : Int32)), .val (.int (0 : Int32)), .val (.int (1 : Int32)), .val (.int (0 : Int32)), .val (.int ((0 : Int32) + (1 : Int32))), .val (.int (((0 : Int32) + (1 : Int32)) + (0 : Int32))), .val (.int ((((0 : Int32) + (1 : Int32)) + (0 : Int32)) + (1 : Int32))), .val (.double (FP.dadd FP.dconst0 (FP.ddiv (FP.i2d ((0 : Int32) + (1 : Int32))) (4611686018427387904 : UInt64)))), .second, .unset, .unset] at_213 rfl rfl ?_
                  refine WP.iload K 217 at_215 rfl rfl ?_
                  refine WP.if_eq K 232 220 at_217 (by decide) rfl (fun c217 => ?_) (fun c217 => ?_)
                  · skip
                    refine WP.iload K 234 at_232 rfl rfl ?_
                    refine WP.if_eq K 249 237 at_234 (by decide) rfl (fun c234 => ?_) (fun c234 => ?_)
                    · skip
                      exact absurd c234 (by decide)
                    · skip
                      refine WP.dload K 239 at_237 rfl rfl ?_
                      refine WP.iload K 241 at_239 rfl rfl ?_
                      refine WP.i2d K 242 at_241 rfl ?_
                      refine WP.ldc2D K (v := (4616189618054758400 : UInt64)) 245 (hw _ (List.mem_of_getElem? (i := 33) rfl)) at_242 rfl ?_
                      refine WP.ddiv K 246 at_245 rfl (by unfold NoNaN64; decide +kernel) ?_
                      refine WP.dadd K 247 at_246 rfl (by unfold NoNaN64; decide +kernel) ?_
                      refine WP.dstore K 249 [.val (.int g1), .val (.int g2), .val (.int g3), .val (.int g4), .val (.int sh), .val (.int nn), .val (.int rr), .val (.ref ga), .val (.ref ia), .val (.double gt), .second, .val (.int (0 : Int32)), .val (.int (1 : Int32)), .val (.int (0 : Int32)), .val (.int (1 : Int32)), .val (.int (0 : Int32)), .val (.int ((0 : Int32) + (1 : Int32))), .val (.int (((0 : Int32) + (1 : Int32)) + (0 : Int32))), .val (.int ((((0 : Int32) + (1 : Int32)) + (0 : Int32)) + (1 : Int32))), .val (.double (FP.dadd (FP.dadd FP.dconst0 (FP.ddiv (FP.i2d ((0 : Int32) + (1 : Int32))) (4611686018427387904 : UInt64))) (FP.ddiv (FP.i2d ((((0 : Int32) + (1 : Int32)) + (0 : Int32)) + (1 : Int32))) (4616189618054758400 : UInt64)))), .second, .unset, .unset] at_247 rfl rfl ?_
                      exact J249 _ _ _ _ _ (by rw [show decide (1 ≤ n ∧ 0 < g1.toInt) = false from decide_eq_false d1, show decide (2 ≤ n ∧ 0 < g2.toInt) = true from decide_eq_true d2, show decide (3 ≤ n ∧ 0 < g3.toInt) = false from decide_eq_false d3, show decide (4 ≤ n ∧ 0 < g4.toInt) = true from decide_eq_true d4]; decide +kernel)
                  · skip
                    exact absurd c217 (by decide)
              · skip
                exact absurd c185 (by decide)
          · skip
            exact absurd c154 (by decide)
      · skip
        exact absurd c125 (by decide)
    · skip
      refine WP.iload K 125 at_123 rfl rfl ?_
      refine WP.if_eq K 132 128 at_125 (by decide) rfl (fun c125 => ?_) (fun c125 => ?_)
      · skip
        refine WP.iconst K (0 : Int32) 133 at_132 rfl rfl ?_
        refine WP.istore K 135 [.val (.int g1), .val (.int g2), .val (.int g3), .val (.int g4), .val (.int sh), .val (.int nn), .val (.int rr), .val (.ref ga), .val (.ref ia), .val (.double gt), .second, .val (.int (0 : Int32)), .val (.int (1 : Int32)), .val (.int (0 : Int32)), .val (.int (0 : Int32)), .val (.int (0 : Int32)), .unset, .unset, .unset, .unset, .unset, .unset, .unset] at_133 rfl rfl ?_
        refine WP.iload K 137 at_135 rfl rfl ?_
        refine WP.iload K 139 at_137 rfl rfl ?_
        refine WP.if_eq K 146 142 at_139 (by decide) rfl (fun c139 => ?_) (fun c139 => ?_)
        · skip
          exact absurd c139 (by decide)
        · skip
          refine WP.iconst K (1 : Int32) 143 at_142 rfl rfl ?_
          refine WP.goto K 147 at_143 (by decide) ?_
          refine WP.iadd K 148 at_147 rfl ?_
          refine WP.istore K 150 [.val (.int g1), .val (.int g2), .val (.int g3), .val (.int g4), .val (.int sh), .val (.int nn), .val (.int rr), .val (.ref ga), .val (.ref ia), .val (.double gt), .second, .val (.int (0 : Int32)), .val (.int (1 : Int32)), .val (.int (0 : Int32)), .val (.int (0 : Int32)), .val (.int (0 : Int32)), .val (.int ((0 : Int32) + (1 : Int32))), .unset, .unset, .unset, .unset, .unset, .unset] at_148 rfl rfl ?_
          refine WP.iload K 152 at_150 rfl rfl ?_
          refine WP.iload K 154 at_152 rfl rfl ?_
          refine WP.if_eq K 161 157 at_154 (by decide) rfl (fun c154 => ?_) (fun c154 => ?_)
          · skip
            refine WP.iconst K (0 : Int32) 162 at_161 rfl rfl ?_
            refine WP.iadd K 163 at_162 rfl ?_
            refine WP.istore K 165 [.val (.int g1), .val (.int g2), .val (.int g3), .val (.int g4), .val (.int sh), .val (.int nn), .val (.int rr), .val (.ref ga), .val (.ref ia), .val (.double gt), .second, .val (.int (0 : Int32)), .val (.int (1 : Int32)), .val (.int (0 : Int32)), .val (.int (0 : Int32)), .val (.int (0 : Int32)), .val (.int ((0 : Int32) + (1 : Int32))), .val (.int (((0 : Int32) + (1 : Int32)) + (0 : Int32))), .unset, .unset, .unset, .unset, .unset] at_163 rfl rfl ?_
            refine WP.iload K 167 at_165 rfl rfl ?_
            refine WP.iload K 169 at_167 rfl rfl ?_
            refine WP.if_eq K 176 172 at_169 (by decide) rfl (fun c169 => ?_) (fun c169 => ?_)
            · skip
              refine WP.iconst K (0 : Int32) 177 at_176 rfl rfl ?_
              refine WP.iadd K 178 at_177 rfl ?_
              refine WP.istore K 180 [.val (.int g1), .val (.int g2), .val (.int g3), .val (.int g4), .val (.int sh), .val (.int nn), .val (.int rr), .val (.ref ga), .val (.ref ia), .val (.double gt), .second, .val (.int (0 : Int32)), .val (.int (1 : Int32)), .val (.int (0 : Int32)), .val (.int (0 : Int32)), .val (.int (0 : Int32)), .val (.int ((0 : Int32) + (1 : Int32))), .val (.int (((0 : Int32) + (1 : Int32)) + (0 : Int32))), .val (.int ((((0 : Int32) + (1 : Int32)) + (0 : Int32)) + (0 : Int32))), .unset, .unset, .unset, .unset] at_178 rfl rfl ?_
              refine WP.dconst0 K 181 at_180 rfl ?_
              refine WP.dstore K 183 [.val (.int g1), .val (.int g2), .val (.int g3), .val (.int g4), .val (.int sh), .val (.int nn), .val (.int rr), .val (.ref ga), .val (.ref ia), .val (.double gt), .second, .val (.int (0 : Int32)), .val (.int (1 : Int32)), .val (.int (0 : Int32)), .val (.int (0 : Int32)), .val (.int (0 : Int32)), .val (.int ((0 : Int32) + (1 : Int32))), .val (.int (((0 : Int32) + (1 : Int32)) + (0 : Int32))), .val (.int ((((0 : Int32) + (1 : Int32)) + (0 : Int32)) + (0 : Int32))), .val (.double FP.dconst0), .second, .unset, .unset] at_181 rfl rfl ?_
              refine WP.iload K 185 at_183 rfl rfl ?_
              refine WP.if_eq K 198 188 at_185 (by decide) rfl (fun c185 => ?_) (fun c185 => ?_)
              · skip
                refine WP.iload K 200 at_198 rfl rfl ?_
                refine WP.if_eq K 215 203 at_200 (by decide) rfl (fun c200 => ?_) (fun c200 => ?_)
                · skip
                  exact absurd c200 (by decide)
                · skip
                  refine WP.dload K 205 at_203 rfl rfl ?_
                  refine WP.iload K 207 at_205 rfl rfl ?_
                  refine WP.i2d K 208 at_207 rfl ?_
                  refine WP.ldc2D K (v := (4611686018427387904 : UInt64)) 211 (hw _ (List.mem_of_getElem? (i := 31) rfl)) at_208 rfl ?_
                  refine WP.ddiv K 212 at_211 rfl (by unfold NoNaN64; decide +kernel) ?_
                  refine WP.dadd K 213 at_212 rfl (by unfold NoNaN64; decide +kernel) ?_
                  refine WP.dstore K 215 [.val (.int g1), .val (.int g2), .val (.int g3), .val (.int g4), .val (.int sh), .val (.int nn), .val (.int rr), .val (.ref ga), .val (.ref ia), .val (.double gt), .second, .val (.int (0 : Int32)), .val (.int (1 : Int32)), .val (.int (0 : Int32)), .val (.int (0 : Int32)), .val (.int (0 : Int32)), .val (.int ((0 : Int32) + (1 : Int32))), .val (.int (((0 : Int32) + (1 : Int32)) + (0 : Int32))), .val (.int ((((0 : Int32) + (1 : Int32)) + (0 : Int32)) + (0 : Int32))), .val (.double (FP.dadd FP.dconst0 (FP.ddiv (FP.i2d ((0 : Int32) + (1 : Int32))) (4611686018427387904 : UInt64)))), .second, .unset, .unset] at_213 rfl rfl ?_
                  refine WP.iload K 217 at_215 rfl rfl ?_
                  refine WP.if_eq K 232 220 at_217 (by decide) rfl (fun c217 => ?_) (fun c217 => ?_)
                  · skip
                    refine WP.iload K 234 at_232 rfl rfl ?_
                    refine WP.if_eq K 249 237 at_234 (by decide) rfl (fun c234 => ?_) (fun c234 => ?_)
                    · skip
                      exact J249 _ _ _ _ _ (by rw [show decide (1 ≤ n ∧ 0 < g1.toInt) = false from decide_eq_false d1, show decide (2 ≤ n ∧ 0 < g2.toInt) = true from decide_eq_true d2, show decide (3 ≤ n ∧ 0 < g3.toInt) = false from decide_eq_false d3, show decide (4 ≤ n ∧ 0 < g4.toInt) = false from decide_eq_false d4]; decide +kernel)
                    · skip
                      exact absurd c234 (by decide)
                  · skip
                    exact absurd c217 (by decide)
              · skip
                exact absurd c185 (by decide)
            · skip
              exact absurd c169 (by decide)
          · skip
            exact absurd c154 (by decide)
      · skip
        exact absurd c125 (by decide)
    · skip
      refine WP.iload K 125 at_123 rfl rfl ?_
      refine WP.if_eq K 132 128 at_125 (by decide) rfl (fun c125 => ?_) (fun c125 => ?_)
      · skip
        refine WP.iconst K (0 : Int32) 133 at_132 rfl rfl ?_
        refine WP.istore K 135 [.val (.int g1), .val (.int g2), .val (.int g3), .val (.int g4), .val (.int sh), .val (.int nn), .val (.int rr), .val (.ref ga), .val (.ref ia), .val (.double gt), .second, .val (.int (0 : Int32)), .val (.int (0 : Int32)), .val (.int (1 : Int32)), .val (.int (1 : Int32)), .val (.int (0 : Int32)), .unset, .unset, .unset, .unset, .unset, .unset, .unset] at_133 rfl rfl ?_
        refine WP.iload K 137 at_135 rfl rfl ?_
        refine WP.iload K 139 at_137 rfl rfl ?_
        refine WP.if_eq K 146 142 at_139 (by decide) rfl (fun c139 => ?_) (fun c139 => ?_)
        · skip
          refine WP.iconst K (0 : Int32) 147 at_146 rfl rfl ?_
          refine WP.iadd K 148 at_147 rfl ?_
          refine WP.istore K 150 [.val (.int g1), .val (.int g2), .val (.int g3), .val (.int g4), .val (.int sh), .val (.int nn), .val (.int rr), .val (.ref ga), .val (.ref ia), .val (.double gt), .second, .val (.int (0 : Int32)), .val (.int (0 : Int32)), .val (.int (1 : Int32)), .val (.int (1 : Int32)), .val (.int (0 : Int32)), .val (.int ((0 : Int32) + (0 : Int32))), .unset, .unset, .unset, .unset, .unset, .unset] at_148 rfl rfl ?_
          refine WP.iload K 152 at_150 rfl rfl ?_
          refine WP.iload K 154 at_152 rfl rfl ?_
          refine WP.if_eq K 161 157 at_154 (by decide) rfl (fun c154 => ?_) (fun c154 => ?_)
          · skip
            exact absurd c154 (by decide)
          · skip
            refine WP.iconst K (1 : Int32) 158 at_157 rfl rfl ?_
            refine WP.goto K 162 at_158 (by decide) ?_
            refine WP.iadd K 163 at_162 rfl ?_
            refine WP.istore K 165 [.val (.int g1), .val (.int g2), .val (.int g3), .val (.int g4), .val (.int sh), .val (.int nn), .val (.int rr), .val (.ref ga), .val (.ref ia), .val (.double gt), .second, .val (.int (0 : Int32)), .val (.int (0 : Int32)), .val (.int (1 : Int32)), .val (.int (1 : Int32)), .val (.int (0 : Int32)), .val (.int ((0 : Int32) + (0 : Int32))), .val (.int (((0 : Int32) + (0 : Int32)) + (1 : Int32))), .unset, .unset, .unset, .unset, .unset] at_163 rfl rfl ?_
            refine WP.iload K 167 at_165 rfl rfl ?_
            refine WP.iload K 169 at_167 rfl rfl ?_
            refine WP.if_eq K 176 172 at_169 (by decide) rfl (fun c169 => ?_) (fun c169 => ?_)
            · skip
              exact absurd c169 (by decide)
            · skip
              refine WP.iconst K (1 : Int32) 173 at_172 rfl rfl ?_
              refine WP.goto K 177 at_173 (by decide) ?_
              refine WP.iadd K 178 at_177 rfl ?_
              refine WP.istore K 180 [.val (.int g1), .val (.int g2), .val (.int g3), .val (.int g4), .val (.int sh), .val (.int nn), .val (.int rr), .val (.ref ga), .val (.ref ia), .val (.double gt), .second, .val (.int (0 : Int32)), .val (.int (0 : Int32)), .val (.int (1 : Int32)), .val (.int (1 : Int32)), .val (.int (0 : Int32)), .val (.int ((0 : Int32) + (0 : Int32))), .val (.int (((0 : Int32) + (0 : Int32)) + (1 : Int32))), .val (.int ((((0 : Int32) + (0 : Int32)) + (1 : Int32)) + (1 : Int32))), .unset, .unset, .unset, .unset] at_178 rfl rfl ?_
              refine WP.dconst0 K 181 at_180 rfl ?_
              refine WP.dstore K 183 [.val (.int g1), .val (.int g2), .val (.int g3), .val (.int g4), .val (.int sh), .val (.int nn), .val (.int rr), .val (.ref ga), .val (.ref ia), .val (.double gt), .second, .val (.int (0 : Int32)), .val (.int (0 : Int32)), .val (.int (1 : Int32)), .val (.int (1 : Int32)), .val (.int (0 : Int32)), .val (.int ((0 : Int32) + (0 : Int32))), .val (.int (((0 : Int32) + (0 : Int32)) + (1 : Int32))), .val (.int ((((0 : Int32) + (0 : Int32)) + (1 : Int32)) + (1 : Int32))), .val (.double FP.dconst0), .second, .unset, .unset] at_181 rfl rfl ?_
              refine WP.iload K 185 at_183 rfl rfl ?_
              refine WP.if_eq K 198 188 at_185 (by decide) rfl (fun c185 => ?_) (fun c185 => ?_)
              · skip
                refine WP.iload K 200 at_198 rfl rfl ?_
                refine WP.if_eq K 215 203 at_200 (by decide) rfl (fun c200 => ?_) (fun c200 => ?_)
                · skip
                  refine WP.iload K 217 at_215 rfl rfl ?_
                  refine WP.if_eq K 232 220 at_217 (by decide) rfl (fun c217 => ?_) (fun c217 => ?_)
                  · skip
                    exact absurd c217 (by decide)
                  · skip
                    refine WP.dload K 222 at_220 rfl rfl ?_
                    refine WP.iload K 224 at_222 rfl rfl ?_
                    refine WP.i2d K 225 at_224 rfl ?_
                    refine WP.ldc2D K (v := (4613937818241073152 : UInt64)) 228 (hw _ (List.mem_of_getElem? (i := 32) rfl)) at_225 rfl ?_
                    refine WP.ddiv K 229 at_228 rfl (by unfold NoNaN64; decide +kernel) ?_
                    refine WP.dadd K 230 at_229 rfl (by unfold NoNaN64; decide +kernel) ?_
                    refine WP.dstore K 232 [.val (.int g1), .val (.int g2), .val (.int g3), .val (.int g4), .val (.int sh), .val (.int nn), .val (.int rr), .val (.ref ga), .val (.ref ia), .val (.double gt), .second, .val (.int (0 : Int32)), .val (.int (0 : Int32)), .val (.int (1 : Int32)), .val (.int (1 : Int32)), .val (.int (0 : Int32)), .val (.int ((0 : Int32) + (0 : Int32))), .val (.int (((0 : Int32) + (0 : Int32)) + (1 : Int32))), .val (.int ((((0 : Int32) + (0 : Int32)) + (1 : Int32)) + (1 : Int32))), .val (.double (FP.dadd FP.dconst0 (FP.ddiv (FP.i2d (((0 : Int32) + (0 : Int32)) + (1 : Int32))) (4613937818241073152 : UInt64)))), .second, .unset, .unset] at_230 rfl rfl ?_
                    refine WP.iload K 234 at_232 rfl rfl ?_
                    refine WP.if_eq K 249 237 at_234 (by decide) rfl (fun c234 => ?_) (fun c234 => ?_)
                    · skip
                      exact absurd c234 (by decide)
                    · skip
                      refine WP.dload K 239 at_237 rfl rfl ?_
                      refine WP.iload K 241 at_239 rfl rfl ?_
                      refine WP.i2d K 242 at_241 rfl ?_
                      refine WP.ldc2D K (v := (4616189618054758400 : UInt64)) 245 (hw _ (List.mem_of_getElem? (i := 33) rfl)) at_242 rfl ?_
                      refine WP.ddiv K 246 at_245 rfl (by unfold NoNaN64; decide +kernel) ?_
                      refine WP.dadd K 247 at_246 rfl (by unfold NoNaN64; decide +kernel) ?_
                      refine WP.dstore K 249 [.val (.int g1), .val (.int g2), .val (.int g3), .val (.int g4), .val (.int sh), .val (.int nn), .val (.int rr), .val (.ref ga), .val (.ref ia), .val (.double gt), .second, .val (.int (0 : Int32)), .val (.int (0 : Int32)), .val (.int (1 : Int32)), .val (.int (1 : Int32)), .val (.int (0 : Int32)), .val (.int ((0 : Int32) + (0 : Int32))), .val (.int (((0 : Int32) + (0 : Int32)) + (1 : Int32))), .val (.int ((((0 : Int32) + (0 : Int32)) + (1 : Int32)) + (1 : Int32))), .val (.double (FP.dadd (FP.dadd FP.dconst0 (FP.ddiv (FP.i2d (((0 : Int32) + (0 : Int32)) + (1 : Int32))) (4613937818241073152 : UInt64))) (FP.ddiv (FP.i2d ((((0 : Int32) + (0 : Int32)) + (1 : Int32)) + (1 : Int32))) (4616189618054758400 : UInt64)))), .second, .unset, .unset] at_247 rfl rfl ?_
                      exact J249 _ _ _ _ _ (by rw [show decide (1 ≤ n ∧ 0 < g1.toInt) = false from decide_eq_false d1, show decide (2 ≤ n ∧ 0 < g2.toInt) = false from decide_eq_false d2, show decide (3 ≤ n ∧ 0 < g3.toInt) = true from decide_eq_true d3, show decide (4 ≤ n ∧ 0 < g4.toInt) = true from decide_eq_true d4]; decide +kernel)
                · skip
                  exact absurd c200 (by decide)
              · skip
                exact absurd c185 (by decide)
        · skip
          exact absurd c139 (by decide)
      · skip
        exact absurd c125 (by decide)
    · skip
      refine WP.iload K 125 at_123 rfl rfl ?_
      refine WP.if_eq K 132 128 at_125 (by decide) rfl (fun c125 => ?_) (fun c125 => ?_)
      · skip
        refine WP.iconst K (0 : Int32) 133 at_132 rfl rfl ?_
        refine WP.istore K 135 [.val (.int g1), .val (.int g2), .val (.int g3), .val (.int g4), .val (.int sh), .val (.int nn), .val (.int rr), .val (.ref ga), .val (.ref ia), .val (.double gt), .second, .val (.int (0 : Int32)), .val (.int (0 : Int32)), .val (.int (1 : Int32)), .val (.int (0 : Int32)), .val (.int (0 : Int32)), .unset, .unset, .unset, .unset, .unset, .unset, .unset] at_133 rfl rfl ?_
        refine WP.iload K 137 at_135 rfl rfl ?_
        refine WP.iload K 139 at_137 rfl rfl ?_
        refine WP.if_eq K 146 142 at_139 (by decide) rfl (fun c139 => ?_) (fun c139 => ?_)
        · skip
          refine WP.iconst K (0 : Int32) 147 at_146 rfl rfl ?_
          refine WP.iadd K 148 at_147 rfl ?_
          refine WP.istore K 150 [.val (.int g1), .val (.int g2), .val (.int g3), .val (.int g4), .val (.int sh), .val (.int nn), .val (.int rr), .val (.ref ga), .val (.ref ia), .val (.double gt), .second, .val (.int (0 : Int32)), .val (.int (0 : Int32)), .val (.int (1 : Int32)), .val (.int (0 : Int32)), .val (.int (0 : Int32)), .val (.int ((0 : Int32) + (0 : Int32))), .unset, .unset, .unset, .unset, .unset, .unset] at_148 rfl rfl ?_
          refine WP.iload K 152 at_150 rfl rfl ?_
          refine WP.iload K 154 at_152 rfl rfl ?_
          refine WP.if_eq K 161 157 at_154 (by decide) rfl (fun c154 => ?_) (fun c154 => ?_)
          · skip
            exact absurd c154 (by decide)
          · skip
            refine WP.iconst K (1 : Int32) 158 at_157 rfl rfl ?_
            refine WP.goto K 162 at_158 (by decide) ?_
            refine WP.iadd K 163 at_162 rfl ?_
            refine WP.istore K 165 [.val (.int g1), .val (.int g2), .val (.int g3), .val (.int g4), .val (.int sh), .val (.int nn), .val (.int rr), .val (.ref ga), .val (.ref ia), .val (.double gt), .second, .val (.int (0 : Int32)), .val (.int (0 : Int32)), .val (.int (1 : Int32)), .val (.int (0 : Int32)), .val (.int (0 : Int32)), .val (.int ((0 : Int32) + (0 : Int32))), .val (.int (((0 : Int32) + (0 : Int32)) + (1 : Int32))), .unset, .unset, .unset, .unset, .unset] at_163 rfl rfl ?_
            refine WP.iload K 167 at_165 rfl rfl ?_
            refine WP.iload K 169 at_167 rfl rfl ?_
            refine WP.if_eq K 176 172 at_169 (by decide) rfl (fun c169 => ?_) (fun c169 => ?_)
            · skip
              refine WP.iconst K (0 : Int32) 177 at_176 rfl rfl ?_
              refine WP.iadd K 178 at_177 rfl ?_
              refine WP.istore K 180 [.val (.int g1), .val (.int g2), .val (.int g3), .val (.int g4), .val (.int sh), .val (.int nn), .val (.int rr), .val (.ref ga), .val (.ref ia), .val (.double gt), .second, .val (.int (0 : Int32)), .val (.int (0 : Int32)), .val (.int (1 : Int32)), .val (.int (0 : Int32)), .val (.int (0 : Int32)), .val (.int ((0 : Int32) + (0 : Int32))), .val (.int (((0 : Int32) + (0 : Int32)) + (1 : Int32))), .val (.int ((((0 : Int32) + (0 : Int32)) + (1 : Int32)) + (0 : Int32))), .unset, .unset, .unset, .unset] at_178 rfl rfl ?_
              refine WP.dconst0 K 181 at_180 rfl ?_
              refine WP.dstore K 183 [.val (.int g1), .val (.int g2), .val (.int g3), .val (.int g4), .val (.int sh), .val (.int nn), .val (.int rr), .val (.ref ga), .val (.ref ia), .val (.double gt), .second, .val (.int (0 : Int32)), .val (.int (0 : Int32)), .val (.int (1 : Int32)), .val (.int (0 : Int32)), .val (.int (0 : Int32)), .val (.int ((0 : Int32) + (0 : Int32))), .val (.int (((0 : Int32) + (0 : Int32)) + (1 : Int32))), .val (.int ((((0 : Int32) + (0 : Int32)) + (1 : Int32)) + (0 : Int32))), .val (.double FP.dconst0), .second, .unset, .unset] at_181 rfl rfl ?_
              refine WP.iload K 185 at_183 rfl rfl ?_
              refine WP.if_eq K 198 188 at_185 (by decide) rfl (fun c185 => ?_) (fun c185 => ?_)
              · skip
                refine WP.iload K 200 at_198 rfl rfl ?_
                refine WP.if_eq K 215 203 at_200 (by decide) rfl (fun c200 => ?_) (fun c200 => ?_)
                · skip
                  refine WP.iload K 217 at_215 rfl rfl ?_
                  refine WP.if_eq K 232 220 at_217 (by decide) rfl (fun c217 => ?_) (fun c217 => ?_)
                  · skip
                    exact absurd c217 (by decide)
                  · skip
                    refine WP.dload K 222 at_220 rfl rfl ?_
                    refine WP.iload K 224 at_222 rfl rfl ?_
                    refine WP.i2d K 225 at_224 rfl ?_
                    refine WP.ldc2D K (v := (4613937818241073152 : UInt64)) 228 (hw _ (List.mem_of_getElem? (i := 32) rfl)) at_225 rfl ?_
                    refine WP.ddiv K 229 at_228 rfl (by unfold NoNaN64; decide +kernel) ?_
                    refine WP.dadd K 230 at_229 rfl (by unfold NoNaN64; decide +kernel) ?_
                    refine WP.dstore K 232 [.val (.int g1), .val (.int g2), .val (.int g3), .val (.int g4), .val (.int sh), .val (.int nn), .val (.int rr), .val (.ref ga), .val (.ref ia), .val (.double gt), .second, .val (.int (0 : Int32)), .val (.int (0 : Int32)), .val (.int (1 : Int32)), .val (.int (0 : Int32)), .val (.int (0 : Int32)), .val (.int ((0 : Int32) + (0 : Int32))), .val (.int (((0 : Int32) + (0 : Int32)) + (1 : Int32))), .val (.int ((((0 : Int32) + (0 : Int32)) + (1 : Int32)) + (0 : Int32))), .val (.double (FP.dadd FP.dconst0 (FP.ddiv (FP.i2d (((0 : Int32) + (0 : Int32)) + (1 : Int32))) (4613937818241073152 : UInt64)))), .second, .unset, .unset] at_230 rfl rfl ?_
                    refine WP.iload K 234 at_232 rfl rfl ?_
                    refine WP.if_eq K 249 237 at_234 (by decide) rfl (fun c234 => ?_) (fun c234 => ?_)
                    · skip
                      exact J249 _ _ _ _ _ (by rw [show decide (1 ≤ n ∧ 0 < g1.toInt) = false from decide_eq_false d1, show decide (2 ≤ n ∧ 0 < g2.toInt) = false from decide_eq_false d2, show decide (3 ≤ n ∧ 0 < g3.toInt) = true from decide_eq_true d3, show decide (4 ≤ n ∧ 0 < g4.toInt) = false from decide_eq_false d4]; decide +kernel)
                    · skip
                      exact absurd c234 (by decide)
                · skip
                  exact absurd c200 (by decide)
              · skip
                exact absurd c185 (by decide)
            · skip
              exact absurd c169 (by decide)
        · skip
          exact absurd c139 (by decide)
      · skip
        exact absurd c125 (by decide)
    · skip
      refine WP.iload K 125 at_123 rfl rfl ?_
      refine WP.if_eq K 132 128 at_125 (by decide) rfl (fun c125 => ?_) (fun c125 => ?_)
      · skip
        refine WP.iconst K (0 : Int32) 133 at_132 rfl rfl ?_
        refine WP.istore K 135 [.val (.int g1), .val (.int g2), .val (.int g3), .val (.int g4), .val (.int sh), .val (.int nn), .val (.int rr), .val (.ref ga), .val (.ref ia), .val (.double gt), .second, .val (.int (0 : Int32)), .val (.int (0 : Int32)), .val (.int (0 : Int32)), .val (.int (1 : Int32)), .val (.int (0 : Int32)), .unset, .unset, .unset, .unset, .unset, .unset, .unset] at_133 rfl rfl ?_
        refine WP.iload K 137 at_135 rfl rfl ?_
        refine WP.iload K 139 at_137 rfl rfl ?_
        refine WP.if_eq K 146 142 at_139 (by decide) rfl (fun c139 => ?_) (fun c139 => ?_)
        · skip
          refine WP.iconst K (0 : Int32) 147 at_146 rfl rfl ?_
          refine WP.iadd K 148 at_147 rfl ?_
          refine WP.istore K 150 [.val (.int g1), .val (.int g2), .val (.int g3), .val (.int g4), .val (.int sh), .val (.int nn), .val (.int rr), .val (.ref ga), .val (.ref ia), .val (.double gt), .second, .val (.int (0 : Int32)), .val (.int (0 : Int32)), .val (.int (0 : Int32)), .val (.int (1 : Int32)), .val (.int (0 : Int32)), .val (.int ((0 : Int32) + (0 : Int32))), .unset, .unset, .unset, .unset, .unset, .unset] at_148 rfl rfl ?_
          refine WP.iload K 152 at_150 rfl rfl ?_
          refine WP.iload K 154 at_152 rfl rfl ?_
          refine WP.if_eq K 161 157 at_154 (by decide) rfl (fun c154 => ?_) (fun c154 => ?_)
          · skip
            refine WP.iconst K (0 : Int32) 162 at_161 rfl rfl ?_
            refine WP.iadd K 163 at_162 rfl ?_
            refine WP.istore K 165 [.val (.int g1), .val (.int g2), .val (.int g3), .val (.int g4), .val (.int sh), .val (.int nn), .val (.int rr), .val (.ref ga), .val (.ref ia), .val (.double gt), .second, .val (.int (0 : Int32)), .val (.int (0 : Int32)), .val (.int (0 : Int32)), .val (.int (1 : Int32)), .val (.int (0 : Int32)), .val (.int ((0 : Int32) + (0 : Int32))), .val (.int (((0 : Int32) + (0 : Int32)) + (0 : Int32))), .unset, .unset, .unset, .unset, .unset] at_163 rfl rfl ?_
            refine WP.iload K 167 at_165 rfl rfl ?_
            refine WP.iload K 169 at_167 rfl rfl ?_
            refine WP.if_eq K 176 172 at_169 (by decide) rfl (fun c169 => ?_) (fun c169 => ?_)
            · skip
              exact absurd c169 (by decide)
            · skip
              refine WP.iconst K (1 : Int32) 173 at_172 rfl rfl ?_
              refine WP.goto K 177 at_173 (by decide) ?_
              refine WP.iadd K 178 at_177 rfl ?_
              refine WP.istore K 180 [.val (.int g1), .val (.int g2), .val (.int g3), .val (.int g4), .val (.int sh), .val (.int nn), .val (.int rr), .val (.ref ga), .val (.ref ia), .val (.double gt), .second, .val (.int (0 : Int32)), .val (.int (0 : Int32)), .val (.int (0 : Int32)), .val (.int (1 : Int32)), .val (.int (0 : Int32)), .val (.int ((0 : Int32) + (0 : Int32))), .val (.int (((0 : Int32) + (0 : Int32)) + (0 : Int32))), .val (.int ((((0 : Int32) + (0 : Int32)) + (0 : Int32)) + (1 : Int32))), .unset, .unset, .unset, .unset] at_178 rfl rfl ?_
              refine WP.dconst0 K 181 at_180 rfl ?_
              refine WP.dstore K 183 [.val (.int g1), .val (.int g2), .val (.int g3), .val (.int g4), .val (.int sh), .val (.int nn), .val (.int rr), .val (.ref ga), .val (.ref ia), .val (.double gt), .second, .val (.int (0 : Int32)), .val (.int (0 : Int32)), .val (.int (0 : Int32)), .val (.int (1 : Int32)), .val (.int (0 : Int32)), .val (.int ((0 : Int32) + (0 : Int32))), .val (.int (((0 : Int32) + (0 : Int32)) + (0 : Int32))), .val (.int ((((0 : Int32) + (0 : Int32)) + (0 : Int32)) + (1 : Int32))), .val (.double FP.dconst0), .second, .unset, .unset] at_181 rfl rfl ?_
              refine WP.iload K 185 at_183 rfl rfl ?_
              refine WP.if_eq K 198 188 at_185 (by decide) rfl (fun c185 => ?_) (fun c185 => ?_)
              · skip
                refine WP.iload K 200 at_198 rfl rfl ?_
                refine WP.if_eq K 215 203 at_200 (by decide) rfl (fun c200 => ?_) (fun c200 => ?_)
                · skip
                  refine WP.iload K 217 at_215 rfl rfl ?_
                  refine WP.if_eq K 232 220 at_217 (by decide) rfl (fun c217 => ?_) (fun c217 => ?_)
                  · skip
                    refine WP.iload K 234 at_232 rfl rfl ?_
                    refine WP.if_eq K 249 237 at_234 (by decide) rfl (fun c234 => ?_) (fun c234 => ?_)
                    · skip
                      exact absurd c234 (by decide)
                    · skip
                      refine WP.dload K 239 at_237 rfl rfl ?_
                      refine WP.iload K 241 at_239 rfl rfl ?_
                      refine WP.i2d K 242 at_241 rfl ?_
                      refine WP.ldc2D K (v := (4616189618054758400 : UInt64)) 245 (hw _ (List.mem_of_getElem? (i := 33) rfl)) at_242 rfl ?_
                      refine WP.ddiv K 246 at_245 rfl (by unfold NoNaN64; decide +kernel) ?_
                      refine WP.dadd K 247 at_246 rfl (by unfold NoNaN64; decide +kernel) ?_
                      refine WP.dstore K 249 [.val (.int g1), .val (.int g2), .val (.int g3), .val (.int g4), .val (.int sh), .val (.int nn), .val (.int rr), .val (.ref ga), .val (.ref ia), .val (.double gt), .second, .val (.int (0 : Int32)), .val (.int (0 : Int32)), .val (.int (0 : Int32)), .val (.int (1 : Int32)), .val (.int (0 : Int32)), .val (.int ((0 : Int32) + (0 : Int32))), .val (.int (((0 : Int32) + (0 : Int32)) + (0 : Int32))), .val (.int ((((0 : Int32) + (0 : Int32)) + (0 : Int32)) + (1 : Int32))), .val (.double (FP.dadd FP.dconst0 (FP.ddiv (FP.i2d ((((0 : Int32) + (0 : Int32)) + (0 : Int32)) + (1 : Int32))) (4616189618054758400 : UInt64)))), .second, .unset, .unset] at_247 rfl rfl ?_
                      exact J249 _ _ _ _ _ (by rw [show decide (1 ≤ n ∧ 0 < g1.toInt) = false from decide_eq_false d1, show decide (2 ≤ n ∧ 0 < g2.toInt) = false from decide_eq_false d2, show decide (3 ≤ n ∧ 0 < g3.toInt) = false from decide_eq_false d3, show decide (4 ≤ n ∧ 0 < g4.toInt) = true from decide_eq_true d4]; decide +kernel)
                  · skip
                    exact absurd c217 (by decide)
                · skip
                  exact absurd c200 (by decide)
              · skip
                exact absurd c185 (by decide)
          · skip
            exact absurd c154 (by decide)
        · skip
          exact absurd c139 (by decide)
      · skip
        exact absurd c125 (by decide)
    · skip
      refine WP.iload K 125 at_123 rfl rfl ?_
      refine WP.if_eq K 132 128 at_125 (by decide) rfl (fun c125 => ?_) (fun c125 => ?_)
      · skip
        refine WP.iconst K (0 : Int32) 133 at_132 rfl rfl ?_
        refine WP.istore K 135 [.val (.int g1), .val (.int g2), .val (.int g3), .val (.int g4), .val (.int sh), .val (.int nn), .val (.int rr), .val (.ref ga), .val (.ref ia), .val (.double gt), .second, .val (.int (0 : Int32)), .val (.int (0 : Int32)), .val (.int (0 : Int32)), .val (.int (0 : Int32)), .val (.int (0 : Int32)), .unset, .unset, .unset, .unset, .unset, .unset, .unset] at_133 rfl rfl ?_
        refine WP.iload K 137 at_135 rfl rfl ?_
        refine WP.iload K 139 at_137 rfl rfl ?_
        refine WP.if_eq K 146 142 at_139 (by decide) rfl (fun c139 => ?_) (fun c139 => ?_)
        · skip
          refine WP.iconst K (0 : Int32) 147 at_146 rfl rfl ?_
          refine WP.iadd K 148 at_147 rfl ?_
          refine WP.istore K 150 [.val (.int g1), .val (.int g2), .val (.int g3), .val (.int g4), .val (.int sh), .val (.int nn), .val (.int rr), .val (.ref ga), .val (.ref ia), .val (.double gt), .second, .val (.int (0 : Int32)), .val (.int (0 : Int32)), .val (.int (0 : Int32)), .val (.int (0 : Int32)), .val (.int (0 : Int32)), .val (.int ((0 : Int32) + (0 : Int32))), .unset, .unset, .unset, .unset, .unset, .unset] at_148 rfl rfl ?_
          refine WP.iload K 152 at_150 rfl rfl ?_
          refine WP.iload K 154 at_152 rfl rfl ?_
          refine WP.if_eq K 161 157 at_154 (by decide) rfl (fun c154 => ?_) (fun c154 => ?_)
          · skip
            refine WP.iconst K (0 : Int32) 162 at_161 rfl rfl ?_
            refine WP.iadd K 163 at_162 rfl ?_
            refine WP.istore K 165 [.val (.int g1), .val (.int g2), .val (.int g3), .val (.int g4), .val (.int sh), .val (.int nn), .val (.int rr), .val (.ref ga), .val (.ref ia), .val (.double gt), .second, .val (.int (0 : Int32)), .val (.int (0 : Int32)), .val (.int (0 : Int32)), .val (.int (0 : Int32)), .val (.int (0 : Int32)), .val (.int ((0 : Int32) + (0 : Int32))), .val (.int (((0 : Int32) + (0 : Int32)) + (0 : Int32))), .unset, .unset, .unset, .unset, .unset] at_163 rfl rfl ?_
            refine WP.iload K 167 at_165 rfl rfl ?_
            refine WP.iload K 169 at_167 rfl rfl ?_
            refine WP.if_eq K 176 172 at_169 (by decide) rfl (fun c169 => ?_) (fun c169 => ?_)
            · skip
              refine WP.iconst K (0 : Int32) 177 at_176 rfl rfl ?_
              refine WP.iadd K 178 at_177 rfl ?_
              refine WP.istore K 180 [.val (.int g1), .val (.int g2), .val (.int g3), .val (.int g4), .val (.int sh), .val (.int nn), .val (.int rr), .val (.ref ga), .val (.ref ia), .val (.double gt), .second, .val (.int (0 : Int32)), .val (.int (0 : Int32)), .val (.int (0 : Int32)), .val (.int (0 : Int32)), .val (.int (0 : Int32)), .val (.int ((0 : Int32) + (0 : Int32))), .val (.int (((0 : Int32) + (0 : Int32)) + (0 : Int32))), .val (.int ((((0 : Int32) + (0 : Int32)) + (0 : Int32)) + (0 : Int32))), .unset, .unset, .unset, .unset] at_178 rfl rfl ?_
              refine WP.dconst0 K 181 at_180 rfl ?_
              refine WP.dstore K 183 [.val (.int g1), .val (.int g2), .val (.int g3), .val (.int g4), .val (.int sh), .val (.int nn), .val (.int rr), .val (.ref ga), .val (.ref ia), .val (.double gt), .second, .val (.int (0 : Int32)), .val (.int (0 : Int32)), .val (.int (0 : Int32)), .val (.int (0 : Int32)), .val (.int (0 : Int32)), .val (.int ((0 : Int32) + (0 : Int32))), .val (.int (((0 : Int32) + (0 : Int32)) + (0 : Int32))), .val (.int ((((0 : Int32) + (0 : Int32)) + (0 : Int32)) + (0 : Int32))), .val (.double FP.dconst0), .second, .unset, .unset] at_181 rfl rfl ?_
              refine WP.iload K 185 at_183 rfl rfl ?_
              refine WP.if_eq K 198 188 at_185 (by decide) rfl (fun c185 => ?_) (fun c185 => ?_)
              · skip
                refine WP.iload K 200 at_198 rfl rfl ?_
                refine WP.if_eq K 215 203 at_200 (by decide) rfl (fun c200 => ?_) (fun c200 => ?_)
                · skip
                  refine WP.iload K 217 at_215 rfl rfl ?_
                  refine WP.if_eq K 232 220 at_217 (by decide) rfl (fun c217 => ?_) (fun c217 => ?_)
                  · skip
                    refine WP.iload K 234 at_232 rfl rfl ?_
                    refine WP.if_eq K 249 237 at_234 (by decide) rfl (fun c234 => ?_) (fun c234 => ?_)
                    · skip
                      exact J249 _ _ _ _ _ (by rw [show decide (1 ≤ n ∧ 0 < g1.toInt) = false from decide_eq_false d1, show decide (2 ≤ n ∧ 0 < g2.toInt) = false from decide_eq_false d2, show decide (3 ≤ n ∧ 0 < g3.toInt) = false from decide_eq_false d3, show decide (4 ≤ n ∧ 0 < g4.toInt) = false from decide_eq_false d4]; decide +kernel)
                    · skip
                      exact absurd c234 (by decide)
                  · skip
                    exact absurd c217 (by decide)
                · skip
                  exact absurd c200 (by decide)
              · skip
                exact absurd c185 (by decide)
            · skip
              exact absurd c169 (by decide)
          · skip
            exact absurd c154 (by decide)
        · skip
          exact absurd c139 (by decide)
      · skip
        exact absurd c125 (by decide)
  have J106 : ∀ (r1 r2 r3 : Int32), ((r1 = 1 ∧ (1 ≤ n ∧ 0 < g1.toInt)) ∨ (r1 = 0 ∧ ¬ (1 ≤ n ∧ 0 < g1.toInt))) → ((r2 = 1 ∧ (2 ≤ n ∧ 0 < g2.toInt)) ∨ (r2 = 0 ∧ ¬ (2 ≤ n ∧ 0 < g2.toInt))) → ((r3 = 1 ∧ (3 ≤ n ∧ 0 < g3.toInt)) ∨ (r3 = 0 ∧ ¬ (3 ≤ n ∧ 0 < g3.toInt))) → WP k h10 3 11 106 [.val (.int g1), .val (.int g2), .val (.int g3), .val (.int g4), .val (.int sh), .val (.int nn), .val (.int rr), .val (.ref ga), .val (.ref ia), .val (.double gt), .second, .val (.int r1), .val (.int r2), .val (.int r3), .unset, .unset, .unset, .unset, .unset, .unset, .unset, .unset, .unset] [] := by
    intro r1 r2 r3 q1 q2 q3
    refine WP.iload K 108 at_106 rfl rfl ?_
    refine WP.iconst K (4 : Int32) 109 at_108 rfl rfl ?_
    refine WP.icmp_lt K 120 112 at_109 (by decide) rfl (fun c109 => ?_) (fun c109 => ?_)
    · skip
      refine WP.iconst K (0 : Int32) 121 at_120 rfl rfl ?_
      refine WP.istore K 123 [.val (.int g1), .val (.int g2), .val (.int g3), .val (.int g4), .val (.int sh), .val (.int nn), .val (.int rr), .val (.ref ga), .val (.ref ia), .val (.double gt), .second, .val (.int r1), .val (.int r2), .val (.int r3), .val (.int (0 : Int32)), .unset, .unset, .unset, .unset, .unset, .unset, .unset, .unset] at_121 rfl rfl ?_
      exact J123 _ _ _ _ q1 q2 q3 (Or.inr ⟨rfl, by omega⟩)
    · skip
      refine WP.iloadN K 113 at_112 rfl rfl ?_
      refine WP.if_le K 120 116 at_113 (by decide) rfl (fun c113 => ?_) (fun c113 => ?_)
      · skip
        refine WP.iconst K (0 : Int32) 121 at_120 rfl rfl ?_
        refine WP.istore K 123 [.val (.int g1), .val (.int g2), .val (.int g3), .val (.int g4), .val (.int sh), .val (.int nn), .val (.int rr), .val (.ref ga), .val (.ref ia), .val (.double gt), .second, .val (.int r1), .val (.int r2), .val (.int r3), .val (.int (0 : Int32)), .unset, .unset, .unset, .unset, .unset, .unset, .unset, .unset] at_121 rfl rfl ?_
        exact J123 _ _ _ _ q1 q2 q3 (Or.inr ⟨rfl, by omega⟩)
      · skip
        refine WP.iconst K (1 : Int32) 117 at_116 rfl rfl ?_
        refine WP.goto K 121 at_117 (by decide) ?_
        refine WP.istore K 123 [.val (.int g1), .val (.int g2), .val (.int g3), .val (.int g4), .val (.int sh), .val (.int nn), .val (.int rr), .val (.ref ga), .val (.ref ia), .val (.double gt), .second, .val (.int r1), .val (.int r2), .val (.int r3), .val (.int (1 : Int32)), .unset, .unset, .unset, .unset, .unset, .unset, .unset, .unset] at_121 rfl rfl ?_
        exact J123 _ _ _ _ q1 q2 q3 (Or.inl ⟨rfl, by omega⟩)
  have J89 : ∀ (r1 r2 : Int32), ((r1 = 1 ∧ (1 ≤ n ∧ 0 < g1.toInt)) ∨ (r1 = 0 ∧ ¬ (1 ≤ n ∧ 0 < g1.toInt))) → ((r2 = 1 ∧ (2 ≤ n ∧ 0 < g2.toInt)) ∨ (r2 = 0 ∧ ¬ (2 ≤ n ∧ 0 < g2.toInt))) → WP k h10 3 11 89 [.val (.int g1), .val (.int g2), .val (.int g3), .val (.int g4), .val (.int sh), .val (.int nn), .val (.int rr), .val (.ref ga), .val (.ref ia), .val (.double gt), .second, .val (.int r1), .val (.int r2), .unset, .unset, .unset, .unset, .unset, .unset, .unset, .unset, .unset, .unset] [] := by
    intro r1 r2 q1 q2
    refine WP.iload K 91 at_89 rfl rfl ?_
    refine WP.iconst K (3 : Int32) 92 at_91 rfl rfl ?_
    refine WP.icmp_lt K 103 95 at_92 (by decide) rfl (fun c92 => ?_) (fun c92 => ?_)
    · skip
      refine WP.iconst K (0 : Int32) 104 at_103 rfl rfl ?_
      refine WP.istore K 106 [.val (.int g1), .val (.int g2), .val (.int g3), .val (.int g4), .val (.int sh), .val (.int nn), .val (.int rr), .val (.ref ga), .val (.ref ia), .val (.double gt), .second, .val (.int r1), .val (.int r2), .val (.int (0 : Int32)), .unset, .unset, .unset, .unset, .unset, .unset, .unset, .unset, .unset] at_104 rfl rfl ?_
      exact J106 _ _ _ q1 q2 (Or.inr ⟨rfl, by omega⟩)
    · skip
      refine WP.iloadN K 96 at_95 rfl rfl ?_
      refine WP.if_le K 103 99 at_96 (by decide) rfl (fun c96 => ?_) (fun c96 => ?_)
      · skip
        refine WP.iconst K (0 : Int32) 104 at_103 rfl rfl ?_
        refine WP.istore K 106 [.val (.int g1), .val (.int g2), .val (.int g3), .val (.int g4), .val (.int sh), .val (.int nn), .val (.int rr), .val (.ref ga), .val (.ref ia), .val (.double gt), .second, .val (.int r1), .val (.int r2), .val (.int (0 : Int32)), .unset, .unset, .unset, .unset, .unset, .unset, .unset, .unset, .unset] at_104 rfl rfl ?_
        exact J106 _ _ _ q1 q2 (Or.inr ⟨rfl, by omega⟩)
      · skip
        refine WP.iconst K (1 : Int32) 100 at_99 rfl rfl ?_
        refine WP.goto K 104 at_100 (by decide) ?_
        refine WP.istore K 106 [.val (.int g1), .val (.int g2), .val (.int g3), .val (.int g4), .val (.int sh), .val (.int nn), .val (.int rr), .val (.ref ga), .val (.ref ia), .val (.double gt), .second, .val (.int r1), .val (.int r2), .val (.int (1 : Int32)), .unset, .unset, .unset, .unset, .unset, .unset, .unset, .unset, .unset] at_104 rfl rfl ?_
        exact J106 _ _ _ q1 q2 (Or.inl ⟨rfl, by omega⟩)
  have J72 : ∀ (r1 : Int32), ((r1 = 1 ∧ (1 ≤ n ∧ 0 < g1.toInt)) ∨ (r1 = 0 ∧ ¬ (1 ≤ n ∧ 0 < g1.toInt))) → WP k h10 3 11 72 [.val (.int g1), .val (.int g2), .val (.int g3), .val (.int g4), .val (.int sh), .val (.int nn), .val (.int rr), .val (.ref ga), .val (.ref ia), .val (.double gt), .second, .val (.int r1), .unset, .unset, .unset, .unset, .unset, .unset, .unset, .unset, .unset, .unset, .unset] [] := by
    intro r1 q1
    refine WP.iload K 74 at_72 rfl rfl ?_
    refine WP.iconst K (2 : Int32) 75 at_74 rfl rfl ?_
    refine WP.icmp_lt K 86 78 at_75 (by decide) rfl (fun c75 => ?_) (fun c75 => ?_)
    · skip
      refine WP.iconst K (0 : Int32) 87 at_86 rfl rfl ?_
      refine WP.istore K 89 [.val (.int g1), .val (.int g2), .val (.int g3), .val (.int g4), .val (.int sh), .val (.int nn), .val (.int rr), .val (.ref ga), .val (.ref ia), .val (.double gt), .second, .val (.int r1), .val (.int (0 : Int32)), .unset, .unset, .unset, .unset, .unset, .unset, .unset, .unset, .unset, .unset] at_87 rfl rfl ?_
      exact J89 _ _ q1 (Or.inr ⟨rfl, by omega⟩)
    · skip
      refine WP.iloadN K 79 at_78 rfl rfl ?_
      refine WP.if_le K 86 82 at_79 (by decide) rfl (fun c79 => ?_) (fun c79 => ?_)
      · skip
        refine WP.iconst K (0 : Int32) 87 at_86 rfl rfl ?_
        refine WP.istore K 89 [.val (.int g1), .val (.int g2), .val (.int g3), .val (.int g4), .val (.int sh), .val (.int nn), .val (.int rr), .val (.ref ga), .val (.ref ia), .val (.double gt), .second, .val (.int r1), .val (.int (0 : Int32)), .unset, .unset, .unset, .unset, .unset, .unset, .unset, .unset, .unset, .unset] at_87 rfl rfl ?_
        exact J89 _ _ q1 (Or.inr ⟨rfl, by omega⟩)
      · skip
        refine WP.iconst K (1 : Int32) 83 at_82 rfl rfl ?_
        refine WP.goto K 87 at_83 (by decide) ?_
        refine WP.istore K 89 [.val (.int g1), .val (.int g2), .val (.int g3), .val (.int g4), .val (.int sh), .val (.int nn), .val (.int rr), .val (.ref ga), .val (.ref ia), .val (.double gt), .second, .val (.int r1), .val (.int (1 : Int32)), .unset, .unset, .unset, .unset, .unset, .unset, .unset, .unset, .unset, .unset] at_87 rfl rfl ?_
        exact J89 _ _ q1 (Or.inl ⟨rfl, by omega⟩)
  refine WP.iload K 57 at_55 rfl rfl ?_
  refine WP.iconst K (1 : Int32) 58 at_57 rfl rfl ?_
  refine WP.icmp_lt K 69 61 at_58 (by decide) rfl (fun c58 => ?_) (fun c58 => ?_)
  · skip
    refine WP.iconst K (0 : Int32) 70 at_69 rfl rfl ?_
    refine WP.istore K 72 [.val (.int g1), .val (.int g2), .val (.int g3), .val (.int g4), .val (.int sh), .val (.int nn), .val (.int rr), .val (.ref ga), .val (.ref ia), .val (.double gt), .second, .val (.int (0 : Int32)), .unset, .unset, .unset, .unset, .unset, .unset, .unset, .unset, .unset, .unset, .unset] at_70 rfl rfl ?_
    exact J72 _  (Or.inr ⟨rfl, by omega⟩)
  · skip
    refine WP.iloadN K 62 at_61 rfl rfl ?_
    refine WP.if_le K 69 65 at_62 (by decide) rfl (fun c62 => ?_) (fun c62 => ?_)
    · skip
      refine WP.iconst K (0 : Int32) 70 at_69 rfl rfl ?_
      refine WP.istore K 72 [.val (.int g1), .val (.int g2), .val (.int g3), .val (.int g4), .val (.int sh), .val (.int nn), .val (.int rr), .val (.ref ga), .val (.ref ia), .val (.double gt), .second, .val (.int (0 : Int32)), .unset, .unset, .unset, .unset, .unset, .unset, .unset, .unset, .unset, .unset, .unset] at_70 rfl rfl ?_
      exact J72 _  (Or.inr ⟨rfl, by omega⟩)
    · skip
      refine WP.iconst K (1 : Int32) 66 at_65 rfl rfl ?_
      refine WP.goto K 70 at_66 (by decide) ?_
      refine WP.istore K 72 [.val (.int g1), .val (.int g2), .val (.int g3), .val (.int g4), .val (.int sh), .val (.int nn), .val (.int rr), .val (.ref ga), .val (.ref ia), .val (.double gt), .second, .val (.int (1 : Int32)), .unset, .unset, .unset, .unset, .unset, .unset, .unset, .unset, .unset, .unset, .unset] at_70 rfl rfl ?_
      exact J72 _  (Or.inl ⟨rfl, by omega⟩)
set_option maxRecDepth 65536 in
set_option maxHeartbeats 40000000 in
theorem comes_1 {Post : Tables → Env → Array Value → State → Outcome → State → Prop} (hpost : ∀ tb e args s v u, (limb_1_1.after args s (.returned v) u = true ∧ limb_1_2.after args s (.returned v) u = true ∧ True) → FrameEnd s (.returned v) u (Jvm.fieldLocs frame_1_writes args s ++ Jvm.arrayLocs frame_1_arrays args s ++ Jvm.staticLocs frame_1_statics s) 16 128 → Post tb e args s (.returned v) u) :
    ArmFor flags0 classFile x code maxLocals ret World_1 tables_1 room_1 Calls_1 rest_1 Pre_1 Post := by
  intro l hfl _ _ p e ha hc hk s m args below hf hA hF happ hP
  obtain ⟨hcalls, hrest, hpre⟩ := hP
  obtain ⟨-, -, -, hnamed, -, -, -, hat⟩ := (Spec.applies_iff hf).mp happ
  obtain ⟨hg, hn⟩ := and_e (Cond.before_iff.mp (show (Jvm.Cond.and given_1 narrow_1).before args s = true from hpre))
  obtain ⟨g0, g1⟩ := and_e hg
  obtain ⟨w0, w1, w2, w3, w4, rfl⟩ : ∃ w0 w1 w2 w3 w4 : Value, args = #[w0, w1, w2, w3, w4] := by
    have hs : args.size = 5 := by simpa [Cond.value, given_1] using g0
    obtain ⟨L⟩ := args
    match L, hs with
    | [w0, w1, w2, w3, w4], _ => exact ⟨w0, w1, w2, w3, w4, rfl⟩
  have hw := fun d (hd : d ∈ tables_1) => atoms_spec (ws := Jvm.Cond.code x code maxLocals ret :: tables_1) hat d (List.mem_cons_of_mem _ hd)
  have hfit : Fit s := fun {y c} hc i hi => by
    obtain ⟨ha, rfl⟩ := Array.getElem?_eq_some_iff.mp hc
    have q := List.all_eq_true.mp ((Array.all_eq_true_iff_forall_mem.mp hF) _ (Array.getElem_mem ha)) i (List.mem_range.mpr hi)
    simpa [Array.getElem?_eq_getElem hi] using q
  obtain ⟨u0, g2⟩ := and_e g1
  obtain ⟨i0, ei0⟩ := is_v u0
  obtain rfl : w0 = (.int i0) := Option.some.inj ei0
  obtain ⟨u1, g3⟩ := and_e g2
  obtain ⟨i1, ei1⟩ := is_v u1
  obtain rfl : w1 = (.int i1) := Option.some.inj ei1
  obtain ⟨u2, g4⟩ := and_e g3
  obtain ⟨i2, ei2⟩ := is_v u2
  obtain rfl : w2 = (.int i2) := Option.some.inj ei2
  obtain ⟨u3, g5⟩ := and_e g4
  obtain ⟨i3, ei3⟩ := is_v u3
  obtain rfl : w3 = (.int i3) := Option.some.inj ei3
  obtain ⟨i4, ei4⟩ := is_v g5
  obtain rfl : w4 = (.int i4) := Option.some.inj ei4
  obtain ⟨n, o, h1, h2, h3, _, L, rfl, ⟨⟨_, rfl, rfl⟩, N⟩, hq⟩ := own_law l s _ hw s.heap.size s.heap i0 i1 i2 i3 i4 (Nat.le_refl _) tables_1 p e ha hc hk s m _ below hf ((Spec.applies_iff_loose hf).mp happ).1 ⟨rfl, State.Warmed39.refl s, rfl⟩ trivial
  refine ⟨n, _, h1, h2, h3, hpost _ _ _ _ _ _ ⟨Cond.after_iff.mpr rfl, Cond.after_iff.mpr (eq_i res_at (Term.int_eval (1)) rfl), trivial⟩ ⟨hq.1, hq.2.1, (hq.2.2.sift fun y hy => Or.inr (N y hy)).mono (by decide) (by decide)⟩⟩
theorem main_1_1 : Claimed_1_1 := comes_1 fun _ _ _ _ _ _ h hF => ⟨h.1, hF⟩
theorem main_1_2 : Claimed_1_2 := comes_1 fun _ _ _ _ _ _ h hF => ⟨h.2.1, hF⟩
end Jvm.Pilot.@@N@@
namespace Jvm.Pilot.@@N@@
open Jvm Jvm.ClassFile Sem Op Lib Jvm.Free Jvm.Stand Jvm.Pilot.@@N@@.Jvm.D
/-! MADE BY PROGRAM (witnessworld.py) out of the Statement's table words and the real class files: 10 classes; the members and pool entries that the words name. The judged class is class 1, her method 1. -/
namespace start1
open Jvm.ClassFile
def u (s : String) : CpInfo := .utf8 (stringToUtf16 s)
/-- a pool by its gaps: so many unusable entries, then the entry; so many at the end -/
def gap : Nat → List CpInfo → List CpInfo
  | 0, r => r
  | n + 1, r => .unusable :: gap n r
def poolList (es : List (Nat × CpInfo)) (last : Nat) : List CpInfo := es.foldr (fun e r => gap e.1 (e.2 :: r)) (gap last [])
def pool (es : List (Nat × CpInfo)) (last : Nat) : Array CpInfo := ⟨poolList es last⟩
def fileOf (pool : Array CpInfo) (this : Nat) (attrs : Array Attribute := #[]) (ms : Array MethodInfo := #[]) (fl : Nat := 33) (sup : Nat := 0) (ifs : Array Nat := #[]) (fds : Array FieldInfo := #[]) : ClassFile where
  minorVersion := 0
  majorVersion := 65
  constantPool := pool
  accessFlags := fl
  thisClass := this
  superClass := sup
  interfaces := ifs
  fields := fds
  methods := ms
  attributes := attrs
def plain (name : String) (sup : Option ClassId) : Class where
  name := name
  kind := .ordinary
  loader := none
  accessFlags := 33
  super := sup
  interfaces := #[]
  cf := none
  fields := #[]
  methods := #[]
  instanceTypes := #[]
  staticTypes := #[]
  resolved := #[]
  callSites := []
  init := .initialized
  statics := none
  mirror := none

def pool0 : Array CpInfo := pool [(5, u "<init>"), (0, u "()V"), (1, .class_ 10), (1, u "java/lang/Object")] 113

def k0c0 : Code := { maxStack := 0, maxLocals := 1, code := object_method_1_code, exceptionTable := #[], attributes := #[] }
def k0m0 : Method := { name := "<init>", desc := "()V", sig := { parameters := [], returnType := none }, accessFlags := 1, code := some k0c0 }
/-- java/lang/Object -/
def k0 : Class := { plain "java/lang/Object" none with
  accessFlags := 33
  interfaces := #[]
  cf := some (fileOf pool0 8 #[] #[{ accessFlags := 1, nameIndex := 5, descriptorIndex := 6, attributes := #[] }] 33 0 #[] #[])
  fields := #[]
  methods := #[k0m0]
  instanceTypes := #[]
  staticTypes := #[]
  resolved := Array.replicate 124 none
  statics := none }

def pool1 : Array CpInfo := pool [(2, .class_ 4), (1, u "java/lang/Object"), (0, u "<init>"), (0, u "()V"), (0, .methodref 8 9), (0, .class_ 10), (0, .nameAndType 11 12), (0, u "com/example/sorgu/sorgu/eval/JudgedRankingAveragePrecisionPinLaw"), (0, u "gainsOf"), (0, u "(IIIII)[I"), (0, .methodref 8 14), (0, .nameAndType 15 16), (0, u "idealOf"), (0, u "(I)[I"), (0, .class_ 18), (0, u "com/example/sorgu/sorgu/eval/JudgedRanking"), (0, .methodref 17 20), (0, .nameAndType 5 21), (0, u "([I[I)V"), (0, .methodref 17 23), (0, .nameAndType 24 25), (0, u "averagePrecision"), (0, u "()D"), (0, .double 4611686018427387904), (1, .double 4613937818241073152), (1, .double 4616189618054758400), (3, u "law"), (0, u "(IIIII)Z")] 5

def k1m0 : Method := { name := "<init>", desc := "()V", sig := { parameters := [], returnType := none }, accessFlags := 1, code := none }
def k1c1 : Code := { maxStack := 6, maxLocals := 23, code := code, exceptionTable := #[], attributes := #[] }
def k1m1 : Method := { name := "law", desc := "(IIIII)Z", sig := { parameters := [.int, .int, .int, .int, .int], returnType := some .boolean }, accessFlags := 9, code := some k1c1 }
def k1c2 : Code := { maxStack := 4, maxLocals := 5, code := method_3_code, exceptionTable := #[], attributes := #[] }
def k1m2 : Method := { name := "gainsOf", desc := "(IIIII)[I", sig := { parameters := [.int, .int, .int, .int, .int], returnType := some (.array .int) }, accessFlags := 10, code := some k1c2 }
def k1c3 : Code := { maxStack := 4, maxLocals := 1, code := method_4_code, exceptionTable := #[], attributes := #[] }
def k1m3 : Method := { name := "idealOf", desc := "(I)[I", sig := { parameters := [.int], returnType := some (.array .int) }, accessFlags := 10, code := some k1c3 }
/-- com/example/sorgu/sorgu/eval/JudgedRankingAveragePrecisionPinLaw -/
def k1 : Class := { plain "com/example/sorgu/sorgu/eval/JudgedRankingAveragePrecisionPinLaw" (some 0) with
  accessFlags := 49
  interfaces := #[]
  cf := some (fileOf pool1 8 #[] #[{ accessFlags := 1, nameIndex := 5, descriptorIndex := 6, attributes := #[] }, { accessFlags := 9, nameIndex := 34, descriptorIndex := 35, attributes := #[] }, { accessFlags := 10, nameIndex := 11, descriptorIndex := 12, attributes := #[] }, { accessFlags := 10, nameIndex := 15, descriptorIndex := 16, attributes := #[] }] 49 2 #[] #[])
  fields := #[]
  methods := #[k1m0, k1m1, k1m2, k1m3]
  instanceTypes := #[]
  staticTypes := #[]
  resolved := Array.replicate 41 none
  statics := none }

def pool2 : Array CpInfo := pool [(1, .methodref 2 3), (0, .class_ 4), (0, .nameAndType 5 6), (0, u "java/lang/Object"), (0, u "<init>"), (0, u "()V"), (0, .class_ 8), (0, u "java/lang/Record")] 13

def k2c0 : Code := { maxStack := 1, maxLocals := 1, code := jdk_30_method_1_code, exceptionTable := #[], attributes := #[] }
def k2m0 : Method := { name := "<init>", desc := "()V", sig := { parameters := [], returnType := none }, accessFlags := 4, code := some k2c0 }
/-- java/lang/Record -/
def k2 : Class := { plain "java/lang/Record" (some 0) with
  accessFlags := 1057
  interfaces := #[]
  cf := some (fileOf pool2 7 #[] #[{ accessFlags := 4, nameIndex := 5, descriptorIndex := 6, attributes := #[] }] 1057 2 #[] #[])
  fields := #[]
  methods := #[k2m0]
  instanceTypes := #[]
  staticTypes := #[]
  resolved := Array.replicate 22 none
  statics := none }

def pool3 : Array CpInfo := pool [(1, .methodref 2 3), (0, .class_ 4), (0, .nameAndType 5 6), (0, u "java/lang/Record"), (0, u "<init>"), (0, u "()V"), (0, .fieldref 8 9), (0, .class_ 10), (0, .nameAndType 11 12), (0, u "com/example/sorgu/sorgu/eval/JudgedRanking"), (0, u "gains"), (0, u "[I"), (0, .fieldref 8 14), (0, .nameAndType 15 12), (0, u "idealGains"), (24, u "LN_2"), (0, u "D"), (14, u "([I[I)V"), (6, u "averagePrecision"), (0, u "()D")] 29

def k3c0 : Code := { maxStack := 2, maxLocals := 3, code := prog_11_method_1_code, exceptionTable := #[], attributes := #[] }
def k3m0 : Method := { name := "<init>", desc := "([I[I)V", sig := { parameters := [(.array .int), (.array .int)], returnType := none }, accessFlags := 0, code := some k3c0 }
def k3c1 : Code := { maxStack := 6, maxLocals := 5, code := prog_11_method_4_code, exceptionTable := #[], attributes := #[] }
def k3m1 : Method := { name := "averagePrecision", desc := "()D", sig := { parameters := [], returnType := some .double }, accessFlags := 0, code := some k3c1 }
/-- com/example/sorgu/sorgu/eval/JudgedRanking -/
def k3 : Class := { plain "com/example/sorgu/sorgu/eval/JudgedRanking" (some 2) with
  accessFlags := 48
  interfaces := #[]
  cf := some (fileOf pool3 8 #[] #[{ accessFlags := 0, nameIndex := 5, descriptorIndex := 56, attributes := #[] }, { accessFlags := 0, nameIndex := 63, descriptorIndex := 64, attributes := #[] }] 48 2 #[] #[{ accessFlags := 18, nameIndex := 11, descriptorIndex := 12, attributes := #[] }, { accessFlags := 18, nameIndex := 15, descriptorIndex := 12, attributes := #[] }, { accessFlags := 26, nameIndex := 40, descriptorIndex := 41, attributes := #[] }])
  fields := #[{ name := "gains", type := (.array .int), accessFlags := 18, slot := 0, constantValue := 0 }, { name := "idealGains", type := (.array .int), accessFlags := 18, slot := 1, constantValue := 0 }, { name := "LN_2", type := .double, accessFlags := 26, slot := 0, constantValue := 0 }]
  methods := #[k3m0, k3m1]
  instanceTypes := #[(.array .int), (.array .int)]
  staticTypes := #[.double]
  resolved := Array.replicate 94 none
  statics := none }

def pool4 : Array CpInfo := pool [(1, u "java/lang/Cloneable"), (0, .class_ 1), (0, u "java/lang/Object"), (0, .class_ 3)] 3

/-- java/lang/Cloneable -/
def k4 : Class := { plain "java/lang/Cloneable" (some 0) with
  accessFlags := 1537
  interfaces := #[]
  cf := some (fileOf pool4 2 #[] #[] 1537 4 #[] #[])
  fields := #[]
  methods := #[]
  instanceTypes := #[]
  staticTypes := #[]
  resolved := Array.replicate 8 none
  statics := none }

def pool5 : Array CpInfo := pool [(1, u "java/io/Serializable"), (0, .class_ 1), (0, u "java/lang/Object"), (0, .class_ 3)] 3

/-- java/io/Serializable -/
def k5 : Class := { plain "java/io/Serializable" (some 0) with
  accessFlags := 1537
  interfaces := #[]
  cf := some (fileOf pool5 2 #[] #[] 1537 4 #[] #[])
  fields := #[]
  methods := #[]
  instanceTypes := #[]
  staticTypes := #[]
  resolved := Array.replicate 8 none
  statics := none }

/-- the primitive byte -/
def k6 : Class := { plain "byte" none with kind := .primitive 'B', accessFlags := 0x411 }
/-- [B -/
def k7 : Class := { plain "[B" (some 0) with kind := .array 6 .byte, interfaces := #[4, 5], accessFlags := 1041 }

/-- the primitive int -/
def k8 : Class := { plain "int" none with kind := .primitive 'I', accessFlags := 0x411 }
/-- [I -/
def k9 : Class := { plain "[I" (some 0) with kind := .array 8 .int, interfaces := #[4, 5], accessFlags := 1041 }

def heap : Heap := #[]
def classes : Array Class := #[k0, k1, k2, k3, k4, k5, k6, k7, k8, k9]
def interned : List (Array UInt16 × Addr) := []
def slotsUsed : Nat := 0
def theMethod : MethodId := ⟨1, 1⟩
def args0 : Array Value := #[.int 5, .int 7, .int 1, .int 2, .int 3]
def aboutOver (below : List Frame) : State where
  vm := { classes := classes, interned := interned.toArray }
  heap := heap
  slotsUsed := slotsUsed
  threads := #[{ frames := .invoking theMethod args0 :: below }]
def below0 : List Frame := [.native { method := ⟨0, 0⟩, args := #[] }]
def about1 : State := aboutOver below0
def p0 : Program := .bare "" "" ""
def e0 : Env := launch0.env 0 0 0
theorem w_frames : about1.frames = Frame.invoking theMethod args0 :: below0 := rfl
set_option maxRecDepth 65536 in
theorem w_args : argsFit about1.vm theMethod args0 = true := by decide +kernel
set_option maxRecDepth 65536 in
theorem w_heap : heapFits about1 = true := by decide +kernel
set_option maxRecDepth 65536 in
theorem w_runnable : about1.curStatus? = some .runnable := by decide +kernel
set_option maxRecDepth 65536 in
theorem w_alone : about1.alone = true := by decide +kernel
set_option maxRecDepth 65536 in
theorem w_named : about1.methodNamed? x = some theMethod := by decide +kernel
set_option maxRecDepth 65536 in
theorem w_hears : about1.hears theMethod below0 = true := by decide +kernel
set_option maxRecDepth 65536 in
theorem w_ripe : about1.ripe theMethod args0 below0 = true := by decide +kernel
theorem w_running : about1.status = .running := rfl
set_option maxRecDepth 65536 in
theorem w_room : about1.hasRoom e0.platform room_1 = true :=
  launch0.hasRoom_least _ room_1 (by decide +kernel) (by decide +kernel) (by decide +kernel) (by decide +kernel) (by decide +kernel) (by decide +kernel)
theorem allAtoms_all (ts : List Jvm.Cond) (a : Array Jvm.Value) (st : Jvm.State) : (allAtoms ts).before a st = ts.all (fun c => c.before a st) := by
  induction ts with
  | nil => rfl
  | cons c t ih =>
    show (Jvm.Cond.and c (allAtoms t)).before a st = _
    rw [Jvm.Cond.before_and, ih, List.all_cons]
def words1 : List Jvm.Cond := Jvm.Cond.code x code maxLocals ret :: tables_1
/-- a 'code' word, met by the world's own term for the bytes: nothing is compared byte by byte -/
theorem code_word {y : MethodName} {bytes : ByteArray} {mx : Nat} {rt : Option FieldType} {a : Array Value} {s : State} {m : MethodId} {meth : Method} {c : Code} (h1 : s.methodNamed? y = some m) (h2 : s.vm.method? m = some meth) (h3 : meth.code = some c) (h4 : c.code = bytes)
    (h5 : (c.maxLocals == mx && c.exceptionTable.isEmpty && decide (c.maxStack ≤ mostOperands) && decide (meth.sig.returnType = rt) && !meth.locks && decide (parseMethodDescriptor y.desc = some meth.sig)) = true) : (Jvm.Cond.code y bytes mx rt).before a s = true := by
  simp only [Bool.and_eq_true, beq_iff_eq, Bool.not_eq_true', decide_eq_true_eq] at h5
  obtain ⟨⟨⟨⟨⟨g1, g2⟩, g3⟩, g4⟩, g5⟩, g6⟩ := h5
  simp [Cond.before, Cond.holds, Cond.value, h1, h2, h3, h4, g1, g2, g3, g4, g5, g6]
def isCode : Jvm.Cond → Bool
  | .code _ _ _ _ => true
  | _ => false
theorem all_split {L : List Jvm.Cond} {P : Jvm.Cond → Bool} (h1 : L.all (fun c => isCode c || P c) = true) (h2 : ∀ c ∈ L.filter isCode, P c = true) : L.all P = true := by
  refine List.all_eq_true.mpr fun c hc => ?_
  have h := List.all_eq_true.mp h1 c hc
  rcases Bool.eq_false_or_eq_true (isCode c) with hi | hi
  · exact h2 c (List.mem_filter.mpr ⟨hc, hi⟩)
  · simpa [hi] using h
set_option maxRecDepth 65536 in
theorem w_c0 : (Jvm.Cond.code x code maxLocals ret).before args0 about1 = true := code_word (m := ⟨1, 1⟩) (meth := k1m1) (c := k1c1) (by decide +kernel) rfl rfl rfl (by decide +kernel)
set_option maxRecDepth 65536 in
theorem w_c1 : (Jvm.Cond.code ({ cls := "com/example/sorgu/sorgu/eval/JudgedRankingAveragePrecisionPinLaw", name := "gainsOf", desc := "(IIIII)[I" } : Jvm.MethodName) method_3_code (5 : Nat) (Option.some (Jvm.ClassFile.FieldType.array Jvm.ClassFile.FieldType.int))).before args0 about1 = true := code_word (m := ⟨1, 2⟩) (meth := k1m2) (c := k1c2) (by decide +kernel) rfl rfl rfl (by decide +kernel)
set_option maxRecDepth 65536 in
theorem w_c2 : (Jvm.Cond.code ({ cls := "com/example/sorgu/sorgu/eval/JudgedRankingAveragePrecisionPinLaw", name := "idealOf", desc := "(I)[I" } : Jvm.MethodName) method_4_code (1 : Nat) (Option.some (Jvm.ClassFile.FieldType.array Jvm.ClassFile.FieldType.int))).before args0 about1 = true := code_word (m := ⟨1, 3⟩) (meth := k1m3) (c := k1c3) (by decide +kernel) rfl rfl rfl (by decide +kernel)
set_option maxRecDepth 65536 in
theorem w_c3 : (Jvm.Cond.code ({ cls := "com/example/sorgu/sorgu/eval/JudgedRanking", name := "<init>", desc := "([I[I)V" } : Jvm.MethodName) prog_11_method_1_code (3 : Nat) (Option.none : Option Jvm.ClassFile.FieldType)).before args0 about1 = true := code_word (m := ⟨3, 0⟩) (meth := k3m0) (c := k3c0) (by decide +kernel) rfl rfl rfl (by decide +kernel)
set_option maxRecDepth 65536 in
theorem w_c4 : (Jvm.Cond.code ({ cls := "java/lang/Record", name := "<init>", desc := "()V" } : Jvm.MethodName) jdk_30_method_1_code (1 : Nat) (Option.none : Option Jvm.ClassFile.FieldType)).before args0 about1 = true := code_word (m := ⟨2, 0⟩) (meth := k2m0) (c := k2c0) (by decide +kernel) rfl rfl rfl (by decide +kernel)
set_option maxRecDepth 65536 in
theorem w_c5 : (Jvm.Cond.code ({ cls := "java/lang/Object", name := "<init>", desc := "()V" } : Jvm.MethodName) object_method_1_code (1 : Nat) (Option.none : Option Jvm.ClassFile.FieldType)).before args0 about1 = true := code_word (m := ⟨0, 0⟩) (meth := k0m0) (c := k0c0) (by decide +kernel) rfl rfl rfl (by decide +kernel)
set_option maxRecDepth 65536 in
theorem w_c6 : (Jvm.Cond.code ({ cls := "com/example/sorgu/sorgu/eval/JudgedRanking", name := "averagePrecision", desc := "()D" } : Jvm.MethodName) prog_11_method_4_code (5 : Nat) (Option.some Jvm.ClassFile.FieldType.double)).before args0 about1 = true := code_word (m := ⟨3, 1⟩) (meth := k3m1) (c := k3c1) (by decide +kernel) rfl rfl rfl (by decide +kernel)
def codes1 : List Jvm.Cond := [Jvm.Cond.code x code maxLocals ret, Jvm.Cond.code ({ cls := "com/example/sorgu/sorgu/eval/JudgedRankingAveragePrecisionPinLaw", name := "gainsOf", desc := "(IIIII)[I" } : Jvm.MethodName) method_3_code (5 : Nat) (Option.some (Jvm.ClassFile.FieldType.array Jvm.ClassFile.FieldType.int)), Jvm.Cond.code ({ cls := "com/example/sorgu/sorgu/eval/JudgedRankingAveragePrecisionPinLaw", name := "idealOf", desc := "(I)[I" } : Jvm.MethodName) method_4_code (1 : Nat) (Option.some (Jvm.ClassFile.FieldType.array Jvm.ClassFile.FieldType.int)), Jvm.Cond.code ({ cls := "com/example/sorgu/sorgu/eval/JudgedRanking", name := "<init>", desc := "([I[I)V" } : Jvm.MethodName) prog_11_method_1_code (3 : Nat) (Option.none : Option Jvm.ClassFile.FieldType), Jvm.Cond.code ({ cls := "java/lang/Record", name := "<init>", desc := "()V" } : Jvm.MethodName) jdk_30_method_1_code (1 : Nat) (Option.none : Option Jvm.ClassFile.FieldType), Jvm.Cond.code ({ cls := "java/lang/Object", name := "<init>", desc := "()V" } : Jvm.MethodName) object_method_1_code (1 : Nat) (Option.none : Option Jvm.ClassFile.FieldType), Jvm.Cond.code ({ cls := "com/example/sorgu/sorgu/eval/JudgedRanking", name := "averagePrecision", desc := "()D" } : Jvm.MethodName) prog_11_method_4_code (5 : Nat) (Option.some Jvm.ClassFile.FieldType.double)]
set_option maxRecDepth 65536 in
theorem codes_eq : words1.filter isCode = codes1 := rfl
theorem w_codes : ∀ c ∈ words1.filter isCode, c.before args0 about1 = true := by
  rw [codes_eq]
  intro c hc
  simp only [codes1, List.mem_cons, List.not_mem_nil, or_false] at hc
  rcases hc with rfl | rfl | rfl | rfl | rfl | rfl | rfl
  · exact w_c0
  · exact w_c1
  · exact w_c2
  · exact w_c3
  · exact w_c4
  · exact w_c5
  · exact w_c6
set_option maxRecDepth 65536 in
theorem w_t1 : (words1.take 24).all (fun c => isCode c || c.before args0 about1) = true := by decide +kernel
set_option maxRecDepth 65536 in
theorem w_t2 : (words1.drop 24).all (fun c => isCode c || c.before args0 about1) = true := by decide +kernel
theorem w_tables : (allAtoms (Jvm.Cond.code x code maxLocals ret :: tables_1)).before args0 about1 = true := by
  rw [allAtoms_all]
  show words1.all (fun c => c.before args0 about1) = true
  refine all_split ?_ w_codes
  rw [← List.take_append_drop 24 words1, List.all_append, w_t1, w_t2]
  rfl
set_option maxRecDepth 65536 in
theorem w_case : (Jvm.Cond.and given_1 narrow_1).before args0 about1 = true := by decide +kernel
theorem w_applies : (headSpec (Jvm.Cond.code x code maxLocals ret :: tables_1) room_1).applies x e0.platform about1 = true :=
  (Spec.applies_iff w_frames).mpr ⟨w_running, w_runnable, w_alone, w_named, w_hears, w_ripe, w_room, w_tables⟩
theorem atStart : AtStart classFile x code maxLocals ret World_1 tables_1 room_1 Calls_1 rest_1 Pre_1 launch0 p0 e0 about1 theMethod args0 below0 :=
  ⟨lists_1, trivial, launch0.admits_env _ _ _, launch0.least_env, fairChoices_fair.cas, fairChoices_fair.clock, w_frames, w_args, w_heap, w_applies, trivial, trivial, w_case⟩
end start1
theorem witness_1 : WitnessClaimed_1 := ⟨start1.p0, start1.e0, start1.about1, start1.theMethod, start1.args0, start1.below0, start1.atStart⟩
end Jvm.Pilot.@@N@@
