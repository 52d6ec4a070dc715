import JvmDerived
import JvmDerived.Pilot.@@N@@Statement
import JvmDerived.Pilot.@@N@@Code
set_option linter.unusedVariables false
set_option linter.unusedSimpArgs false
namespace Jvm.OwnWP
open Sem ClassFile Op Lib Jvm.Stand Jvm.Free Jvm.LawKit Jvm.RoadKit
/-- the fixed things of a body's walk -/
abbrev Cx := Program × Launch × Env × Room × State × MethodId × Array Value × List Frame × Method × Code × State × Nat × (Option Value → Heap → Prop) × (Outcome → State → List Loc → Prop)
def Cx.p (k : Cx) : Program := k.1
def Cx.l (k : Cx) : Launch := k.2.1
def Cx.e (k : Cx) : Env := k.2.2.1
def Cx.R (k : Cx) : Room := k.2.2.2.1
def Cx.s (k : Cx) : State := k.2.2.2.2.1
def Cx.m (k : Cx) : MethodId := k.2.2.2.2.2.1
def Cx.args (k : Cx) : Array Value := k.2.2.2.2.2.2.1
def Cx.below (k : Cx) : List Frame := k.2.2.2.2.2.2.2.1
def Cx.meth (k : Cx) : Method := k.2.2.2.2.2.2.2.2.1
def Cx.c (k : Cx) : Code := k.2.2.2.2.2.2.2.2.2.1
def Cx.Z (k : Cx) : State := k.2.2.2.2.2.2.2.2.2.2.1
def Cx.n0 (k : Cx) : Nat := k.2.2.2.2.2.2.2.2.2.2.2.1
def Cx.Q (k : Cx) : Option Value → Heap → Prop := k.2.2.2.2.2.2.2.2.2.2.2.2.1
/-- what the body's end must say of the frame -/
def Cx.Fin (k : Cx) : Outcome → State → List Loc → Prop := k.2.2.2.2.2.2.2.2.2.2.2.2.2
def Cx.St (k : Cx) (T : State) (locs : List Loc) (cells slots : Nat) : Prop := Stand k.p k.l k.e k.R k.s k.m k.args k.below k.meth k.c T locs cells slots
def Cx.Go (k : Cx) (a t : State) : Prop := Steps k.p.tables k.e k.below a t
def Cx.End (k : Cx) (a : State) : Prop := ∃ s₂ o, Steps k.p.tables k.e k.below a s₂ ∧ s₂.status = .running ∧ Ended s₂ k.below o ∧ ∃ v L, o = .returned v ∧ (k.Q v s₂.heap ∧ Fr k.n0 L) ∧ k.Fin o s₂ L
/-- from here the body runs to its end and leaves what Q says -/
def WP (k : Cx) (h : Heap) (cells slots pc : Nat) (ls : List Slot) (st : List Value) : Prop :=
  ∀ (T : State) (locs : List Loc), k.St T locs cells slots → T.heap = h → Fr k.n0 locs → k.End (T.setTop (mkF k.m pc ls.toArray st))
def Ok (k : Cx) (l : Launch) (Z : State) (n0 : Nat) (rm : Room) (bytes : ByteArray) (maxL : Nat) (y : MethodName) (ret : Option FieldType) (Q : Option Value → Heap → Prop) : Prop :=
  k.p.tables.exec = Jvm.exec ∧ Z.Warmed39 k.s.vm ∧ k.R = rm ∧ k.c.code = bytes ∧ k.c.maxLocals = maxL ∧ k.s.vm.findClass y.cls = some k.m.cls ∧ k.meth.sig.returnType = ret ∧ k.meth.locks = false ∧ k.meth.name = y.name ∧ k.l = l ∧ k.Z = Z ∧ k.n0 = n0 ∧ k.Q = Q ∧ ∀ v s₂ L, Q v s₂.heap → FrameEnd k.s (.returned v) s₂ L k.R.cells k.R.slots → k.Fin (.returned v) s₂ L
section Base
variable {k : Cx} {l : Launch} {Z : State} {n0 : Nat} {rm : Room} {bytes : ByteArray} {maxL : Nat} {y : MethodName} {ret : Option FieldType} {Q : Option Value → Heap → Prop}
theorem Ok.hx (K : Ok k l Z n0 rm bytes maxL y ret Q) : k.p.tables.exec = Jvm.exec := K.1
theorem Ok.hZ (K : Ok k l Z n0 rm bytes maxL y ret Q) : Z.Warmed39 k.s.vm := K.2.1
theorem Ok.hR (K : Ok k l Z n0 rm bytes maxL y ret Q) : k.R = rm := K.2.2.1
theorem Ok.hby (K : Ok k l Z n0 rm bytes maxL y ret Q) : k.c.code = bytes := K.2.2.2.1
theorem Ok.hml (K : Ok k l Z n0 rm bytes maxL y ret Q) : k.c.maxLocals = maxL := K.2.2.2.2.1
theorem Ok.hown (K : Ok k l Z n0 rm bytes maxL y ret Q) : k.s.vm.findClass y.cls = some k.m.cls := K.2.2.2.2.2.1
theorem Ok.hret (K : Ok k l Z n0 rm bytes maxL y ret Q) : k.meth.sig.returnType = ret := K.2.2.2.2.2.2.1
theorem Ok.hlk (K : Ok k l Z n0 rm bytes maxL y ret Q) : k.meth.locks = false := K.2.2.2.2.2.2.2.1
theorem Ok.hnm (K : Ok k l Z n0 rm bytes maxL y ret Q) : k.meth.name = y.name := K.2.2.2.2.2.2.2.2.1
theorem Ok.hl (K : Ok k l Z n0 rm bytes maxL y ret Q) : k.l = l := K.2.2.2.2.2.2.2.2.2.1
theorem Ok.hZe (K : Ok k l Z n0 rm bytes maxL y ret Q) : k.Z = Z := K.2.2.2.2.2.2.2.2.2.2.1
theorem Ok.hn0 (K : Ok k l Z n0 rm bytes maxL y ret Q) : k.n0 = n0 := K.2.2.2.2.2.2.2.2.2.2.2.1
theorem Ok.hQ (K : Ok k l Z n0 rm bytes maxL y ret Q) : k.Q = Q := K.2.2.2.2.2.2.2.2.2.2.2.2.1
theorem Ok.hfin (K : Ok k l Z n0 rm bytes maxL y ret Q) : ∀ v s₂ L, Q v s₂.heap → FrameEnd k.s (.returned v) s₂ L k.R.cells k.R.slots → k.Fin (.returned v) s₂ L := K.2.2.2.2.2.2.2.2.2.2.2.2.2
theorem Ok.dec (K : Ok k l Z n0 rm bytes maxL y ret Q) {pc : Nat} {r : Except DecodeError (Instr × Nat)} (h : decode bytes pc = r) : decode k.c.code pc = r := hb K.hby h
theorem End.back {a b : State} (st : ∀ t, k.Go b t → k.Go a t) (w : k.End b) : k.End a := by
  obtain ⟨s2, o, h1, r⟩ := w
  exact ⟨s2, o, st _ h1, r⟩
theorem arrGet {ls : List Slot} {i : Nat} {o : Slot} (h : ls[i]? = some o) : ls.toArray[i]? = some o := by simpa using h
variable {h : Heap} {cells slots pc : Nat} {ls : List Slot} {st : List Value}
theorem WP.plain {pc' : Nat} {ls' : List Slot} {st' : List Value} (hs : ∀ T, At T k.m k.c k.below → ∀ t, Steps k.p.tables k.e k.below (T.setTop (mkF k.m pc' ls'.toArray st')) t → Steps k.p.tables k.e k.below (T.setTop (mkF k.m pc ls.toArray st)) t)
    (w : WP k h cells slots pc' ls' st') : WP k h cells slots pc ls st := fun T locs X e N => End.back (fun t q => hs T X.here t q) (w T locs X e N)
theorem WP.mono {cells' slots' : Nat} (hc : cells ≤ cells') (hs : slots ≤ slots') (w : WP k h cells' slots' pc ls st) : WP k h cells slots pc ls st := fun T locs X e N =>
  w T locs { X with same := X.same.mono hc hs } e N
theorem WP.cast {pc' : Nat} {ls' : List Slot} {st' : List Value} {h' : Heap} (w : WP k h' cells slots pc' ls' st') (e1 : h' = h) (e2 : pc' = pc) (e3 : ls' = ls) (e4 : st' = st) : WP k h cells slots pc ls st := by subst e1 e2 e3 e4; exact w
/-- the contract of a body, at given arguments and a given heap -/
def Con (l : Launch) (Z : State) (y : MethodName) (bytes : ByteArray) (maxL : Nat) (ret : Option FieldType) (rm : Room) (n0 : Nat) (as : Array Value) (h0 : Heap) (Q : Option Value → Heap → Prop) : Prop :=
  ∀ ws, MetFree l y (head1 (Jvm.Cond.code y bytes maxL ret :: ws) rm) (fun a U => a = as ∧ Z.Warmed39 U.vm ∧ U.heap = h0) (fun _ _ _ _ _ => True) (fun _ U o U' => ∃ v L, o = .returned v ∧ (Q v U'.heap ∧ Fr n0 L) ∧ FrameEnd U o U' L rm.cells rm.slots)
def R1 (Q : Value → Heap → Prop) : Option Value → Heap → Prop := fun v h => ∃ r, v = some r ∧ Q r h
def R0 (Q : Heap → Prop) : Option Value → Heap → Prop := fun v h => v = none ∧ Q h
theorem Con.of {as : Array Value} {h0 : Heap} (hp : plainFor y = true) (he : ∀ m, entryFrame m as maxL = mkF m 0 ls.toArray [])
    (hwp : ∀ k, Ok k l Z n0 rm bytes maxL y ret Q → WP k h0 0 0 0 ls []) : Con l Z y bytes maxL ret rm n0 as h0 Q := by
  intro ws
  refine MetFree.of_bodySF hp hisR ?_
  intro p e s m args below meth c s₁ Bd hml0 hP hK
  obtain ⟨rfl, hZ, hh⟩ := hP
  have X0 : Stand p l e rm s m args below meth c s₁ [] 0 0 := Stand.of_body Bd
  have e0 : s₁.heap = h0 := by rw [← hh, Bd.state]; rfl
  have w := hwp (p, l, e, rm, s, m, args, below, meth, c, Z, n0, Q, fun o s₂ L => FrameEnd s o s₂ L rm.cells rm.slots) ⟨Bd.exec, hZ, rfl, Bd.bytes, hml0, findClass_of_methodNamed Bd.named, Bd.returns, Bd.notSynchronized, (name_of_methodNamed Bd.named Bd.method).1, rfl, rfl, rfl, rfl, fun _ _ _ _ q => q⟩ s₁ [] X0 e0 (Fr.nil n0)
  obtain ⟨s2, o, h1, h2, h3, h4⟩ := w
  exact ⟨s2, o, castTop (he m) h1, h2, h3, h4⟩
theorem Con.mono {as : Array Value} {h0 : Heap} {Q' : Option Value → Heap → Prop} (C : Con l Z y bytes maxL ret rm n0 as h0 Q) (hq : ∀ v h, Q v h → Q' v h) : Con l Z y bytes maxL ret rm n0 as h0 Q' := by
  intro ws p e ha hc hk s m args below hf happ hP hK
  obtain ⟨n, o, h1, h2, h3, v, L, e1, q, r⟩ := C ws p e ha hc hk s m args below hf happ hP hK
  exact ⟨n, o, h1, h2, h3, v, L, e1, ⟨hq _ _ q.1, q.2⟩, r⟩
end Base
section Plain
variable {k : Cx} {l : Launch} {Z : State} {n0 : Nat} {rm : Room} {bytes : ByteArray} {maxL : Nat} {y : MethodName} {ret : Option FieldType} {Q : Option Value → Heap → Prop} {h : Heap} {cells slots pc : Nat} {ls : List Slot} {st : List Value}

theorem WP.iload (K : Ok k l Z n0 rm bytes maxL y ret Q) {i : Nat} {v : Int32} (pc' : Nat) (hd : decode bytes pc = .ok (.iload i, 2)) (hp : pc + 2 = pc') (hl : ls[i]? = some (.val (.int v))) (w : WP k h cells slots pc' ls (.int v :: st)) : WP k h cells slots pc ls st := by
  subst hp; exact w.plain fun T A t q => XS.iload A K.hx rfl (K.dec hd) (arrGet hl) q
theorem WP.iloadN (K : Ok k l Z n0 rm bytes maxL y ret Q) {i : Fin 4} {v : Int32} (pc' : Nat) (hd : decode bytes pc = .ok (.iload_n i, 1)) (hp : pc + 1 = pc') (hl : ls[i.val]? = some (.val (.int v))) (w : WP k h cells slots pc' ls (.int v :: st)) : WP k h cells slots pc ls st := by
  subst hp; exact w.plain fun T A t q => XS.iloadN A K.hx rfl (K.dec hd) (arrGet hl) q
theorem WP.lload (K : Ok k l Z n0 rm bytes maxL y ret Q) {i : Nat} {v : Int64} (pc' : Nat) (hd : decode bytes pc = .ok (.lload i, 2)) (hp : pc + 2 = pc') (hl : ls[i]? = some (.val (.long v))) (w : WP k h cells slots pc' ls (.long v :: st)) : WP k h cells slots pc ls st := by
  subst hp; exact w.plain fun T A t q => XT.lload A K.hx rfl (K.dec hd) (arrGet hl) q
theorem WP.lloadN (K : Ok k l Z n0 rm bytes maxL y ret Q) {i : Fin 4} {v : Int64} (pc' : Nat) (hd : decode bytes pc = .ok (.lload_n i, 1)) (hp : pc + 1 = pc') (hl : ls[i.val]? = some (.val (.long v))) (w : WP k h cells slots pc' ls (.long v :: st)) : WP k h cells slots pc ls st := by
  subst hp; exact w.plain fun T A t q => XT.lloadN A K.hx rfl (K.dec hd) (arrGet hl) q
theorem WP.aload (K : Ok k l Z n0 rm bytes maxL y ret Q) {i : Nat} {v : Value} (pc' : Nat) (hd : decode bytes pc = .ok (.aload i, 2)) (hp : pc + 2 = pc') (hl : ls[i]? = some (.val (v))) (hv : v.isRef = true) (w : WP k h cells slots pc' ls (v :: st)) : WP k h cells slots pc ls st := by
  subst hp; exact w.plain fun T A t q => XS.aload A K.hx rfl (K.dec hd) (arrGet hl) hv q
theorem WP.aloadN (K : Ok k l Z n0 rm bytes maxL y ret Q) {i : Fin 4} {v : Value} (pc' : Nat) (hd : decode bytes pc = .ok (.aload_n i, 1)) (hp : pc + 1 = pc') (hl : ls[i.val]? = some (.val (v))) (hv : v.isRef = true) (w : WP k h cells slots pc' ls (v :: st)) : WP k h cells slots pc ls st := by
  subst hp; exact w.plain fun T A t q => XS.aloadN A K.hx rfl (K.dec hd) (arrGet hl) hv q
theorem WP.istore (K : Ok k l Z n0 rm bytes maxL y ret Q) {i : Nat} {v : Int32} (pc' : Nat) (ls' : List Slot) (hd : decode bytes pc = .ok (.istore i, 2)) (hp : pc + 2 = pc') (hl : storeLocals ls.toArray i (.int v) = some ls'.toArray) (w : WP k h cells slots pc' ls' st) : WP k h cells slots pc ls (.int v :: st) := by
  subst hp; exact w.plain fun T A t q => XS.istore A K.hx rfl (K.dec hd) rfl hl q
theorem WP.istoreN (K : Ok k l Z n0 rm bytes maxL y ret Q) {i : Fin 4} {v : Int32} (pc' : Nat) (ls' : List Slot) (hd : decode bytes pc = .ok (.istore_n i, 1)) (hp : pc + 1 = pc') (hl : storeLocals ls.toArray i.val (.int v) = some ls'.toArray) (w : WP k h cells slots pc' ls' st) : WP k h cells slots pc ls (.int v :: st) := by
  subst hp; exact w.plain fun T A t q => XS.istoreN A K.hx rfl (K.dec hd) rfl hl q
theorem WP.lstore (K : Ok k l Z n0 rm bytes maxL y ret Q) {i : Nat} {v : Int64} (pc' : Nat) (ls' : List Slot) (hd : decode bytes pc = .ok (.lstore i, 2)) (hp : pc + 2 = pc') (hl : storeLocals ls.toArray i (.long v) = some ls'.toArray) (w : WP k h cells slots pc' ls' st) : WP k h cells slots pc ls (.long v :: st) := by
  subst hp; exact w.plain fun T A t q => XT.lstore A K.hx rfl (K.dec hd) rfl hl q
theorem WP.lstoreN (K : Ok k l Z n0 rm bytes maxL y ret Q) {i : Fin 4} {v : Int64} (pc' : Nat) (ls' : List Slot) (hd : decode bytes pc = .ok (.lstore_n i, 1)) (hp : pc + 1 = pc') (hl : storeLocals ls.toArray i.val (.long v) = some ls'.toArray) (w : WP k h cells slots pc' ls' st) : WP k h cells slots pc ls (.long v :: st) := by
  subst hp; exact w.plain fun T A t q => XT.lstoreN A K.hx rfl (K.dec hd) rfl hl q
theorem WP.astore (K : Ok k l Z n0 rm bytes maxL y ret Q) {i : Nat} {v : Value} (pc' : Nat) (ls' : List Slot) (hd : decode bytes pc = .ok (.astore i, 2)) (hp : pc + 2 = pc') (hv : v.isRef = true) (hl : storeLocals ls.toArray i (v) = some ls'.toArray) (w : WP k h cells slots pc' ls' st) : WP k h cells slots pc ls (v :: st) := by
  subst hp; exact w.plain fun T A t q => XS.astore A K.hx rfl (K.dec hd) rfl hv hl q
theorem WP.astoreN (K : Ok k l Z n0 rm bytes maxL y ret Q) {i : Fin 4} {v : Value} (pc' : Nat) (ls' : List Slot) (hd : decode bytes pc = .ok (.astore_n i, 1)) (hp : pc + 1 = pc') (hv : v.isRef = true) (hl : storeLocals ls.toArray i.val (v) = some ls'.toArray) (w : WP k h cells slots pc' ls' st) : WP k h cells slots pc ls (v :: st) := by
  subst hp; exact w.plain fun T A t q => XS.astoreN A K.hx rfl (K.dec hd) rfl hv hl q
theorem WP.iconst (K : Ok k l Z n0 rm bytes maxL y ret Q) {i : Int} (v : Int32) (pc' : Nat) (hd : decode bytes pc = .ok (.iconst i, 1)) (hp : pc + 1 = pc') (hv : Int32.ofInt i = v) (w : WP k h cells slots pc' ls (.int v :: st)) : WP k h cells slots pc ls st := by
  subst hp; exact w.plain fun T A t q => XT.iconstV A K.hx rfl v (K.dec hd) hv q
theorem WP.bipush (K : Ok k l Z n0 rm bytes maxL y ret Q) {i : Int} (v : Int32) (pc' : Nat) (hd : decode bytes pc = .ok (.bipush i, 2)) (hp : pc + 2 = pc') (hv : (Int8.ofInt i).toInt32 = v) (w : WP k h cells slots pc' ls (.int v :: st)) : WP k h cells slots pc ls st := by
  subst hp; exact w.plain fun T A t q => XT.bipushV A K.hx rfl v (K.dec hd) hv q
theorem WP.sipush (K : Ok k l Z n0 rm bytes maxL y ret Q) {i : Int} (v : Int32) (pc' : Nat) (hd : decode bytes pc = .ok (.sipush i, 3)) (hp : pc + 3 = pc') (hv : (Int16.ofInt i).toInt32 = v) (w : WP k h cells slots pc' ls (.int v :: st)) : WP k h cells slots pc ls st := by
  subst hp; exact w.plain fun T A t q => XT.sipushV A K.hx rfl v (K.dec hd) hv q
theorem WP.lconst (K : Ok k l Z n0 rm bytes maxL y ret Q) {i : Fin 2} (v : Int64) (pc' : Nat) (hd : decode bytes pc = .ok (.lconst i, 1)) (hp : pc + 1 = pc') (hv : Int64.ofNat i = v) (w : WP k h cells slots pc' ls (.long v :: st)) : WP k h cells slots pc ls st := by
  subst hp; exact w.plain fun T A t q => XT.lconstV A K.hx rfl v (K.dec hd) hv q
theorem WP.aconstNull (K : Ok k l Z n0 rm bytes maxL y ret Q) (pc' : Nat) (hd : decode bytes pc = .ok (.aconst_null, 1)) (hp : pc + 1 = pc') (w : WP k h cells slots pc' ls (.null :: st)) : WP k h cells slots pc ls st := by
  subst hp; exact w.plain fun T A t q => XS.aconstNull A K.hx rfl (K.dec hd) q
theorem WP.iadd (K : Ok k l Z n0 rm bytes maxL y ret Q) {x : Int32} {z : Int32} (pc' : Nat) (hd : decode bytes pc = .ok (.iadd, 1)) (hp : pc + 1 = pc') (w : WP k h cells slots pc' ls (.int (x + z) :: st)) : WP k h cells slots pc ls (.int z :: .int x :: st) := by
  subst hp; exact w.plain fun T A t q => XS.iadd A K.hx rfl (K.dec hd) rfl q
theorem WP.isub (K : Ok k l Z n0 rm bytes maxL y ret Q) {x : Int32} {z : Int32} (pc' : Nat) (hd : decode bytes pc = .ok (.isub, 1)) (hp : pc + 1 = pc') (w : WP k h cells slots pc' ls (.int (x - z) :: st)) : WP k h cells slots pc ls (.int z :: .int x :: st) := by
  subst hp; exact w.plain fun T A t q => XS.isub A K.hx rfl (K.dec hd) rfl q
theorem WP.imul (K : Ok k l Z n0 rm bytes maxL y ret Q) {x : Int32} {z : Int32} (pc' : Nat) (hd : decode bytes pc = .ok (.imul, 1)) (hp : pc + 1 = pc') (w : WP k h cells slots pc' ls (.int (x * z) :: st)) : WP k h cells slots pc ls (.int z :: .int x :: st) := by
  subst hp; exact w.plain fun T A t q => XS.imul A K.hx rfl (K.dec hd) rfl q
theorem WP.iand (K : Ok k l Z n0 rm bytes maxL y ret Q) {x : Int32} {z : Int32} (pc' : Nat) (hd : decode bytes pc = .ok (.iand, 1)) (hp : pc + 1 = pc') (w : WP k h cells slots pc' ls (.int (x &&& z) :: st)) : WP k h cells slots pc ls (.int z :: .int x :: st) := by
  subst hp; exact w.plain fun T A t q => XS.iand A K.hx rfl (K.dec hd) rfl q
theorem WP.ior (K : Ok k l Z n0 rm bytes maxL y ret Q) {x : Int32} {z : Int32} (pc' : Nat) (hd : decode bytes pc = .ok (.ior, 1)) (hp : pc + 1 = pc') (w : WP k h cells slots pc' ls (.int (x ||| z) :: st)) : WP k h cells slots pc ls (.int z :: .int x :: st) := by
  subst hp; exact w.plain fun T A t q => XT.ior A K.hx rfl (K.dec hd) rfl q
theorem WP.ixor (K : Ok k l Z n0 rm bytes maxL y ret Q) {x : Int32} {z : Int32} (pc' : Nat) (hd : decode bytes pc = .ok (.ixor, 1)) (hp : pc + 1 = pc') (w : WP k h cells slots pc' ls (.int (x ^^^ z) :: st)) : WP k h cells slots pc ls (.int z :: .int x :: st) := by
  subst hp; exact w.plain fun T A t q => XT.ixor A K.hx rfl (K.dec hd) rfl q
theorem WP.ishl (K : Ok k l Z n0 rm bytes maxL y ret Q) {x : Int32} {z : Int32} (pc' : Nat) (hd : decode bytes pc = .ok (.ishl, 1)) (hp : pc + 1 = pc') (w : WP k h cells slots pc' ls (.int (x <<< (z &&& 31)) :: st)) : WP k h cells slots pc ls (.int z :: .int x :: st) := by
  subst hp; exact w.plain fun T A t q => XT.ishl A K.hx rfl (K.dec hd) rfl q
theorem WP.ishr (K : Ok k l Z n0 rm bytes maxL y ret Q) {x : Int32} {z : Int32} (pc' : Nat) (hd : decode bytes pc = .ok (.ishr, 1)) (hp : pc + 1 = pc') (w : WP k h cells slots pc' ls (.int (x >>> (z &&& 31)) :: st)) : WP k h cells slots pc ls (.int z :: .int x :: st) := by
  subst hp; exact w.plain fun T A t q => XT.ishr A K.hx rfl (K.dec hd) rfl q
theorem WP.iushr (K : Ok k l Z n0 rm bytes maxL y ret Q) {x : Int32} {z : Int32} (pc' : Nat) (hd : decode bytes pc = .ok (.iushr, 1)) (hp : pc + 1 = pc') (w : WP k h cells slots pc' ls (.int (XT.ushr x z) :: st)) : WP k h cells slots pc ls (.int z :: .int x :: st) := by
  subst hp; exact w.plain fun T A t q => XT.iushr A K.hx rfl (K.dec hd) rfl q
theorem WP.ladd (K : Ok k l Z n0 rm bytes maxL y ret Q) {x : Int64} {z : Int64} (pc' : Nat) (hd : decode bytes pc = .ok (.ladd, 1)) (hp : pc + 1 = pc') (w : WP k h cells slots pc' ls (.long (x + z) :: st)) : WP k h cells slots pc ls (.long z :: .long x :: st) := by
  subst hp; exact w.plain fun T A t q => XT.ladd A K.hx rfl (K.dec hd) rfl q
theorem WP.lsub (K : Ok k l Z n0 rm bytes maxL y ret Q) {x : Int64} {z : Int64} (pc' : Nat) (hd : decode bytes pc = .ok (.lsub, 1)) (hp : pc + 1 = pc') (w : WP k h cells slots pc' ls (.long (x - z) :: st)) : WP k h cells slots pc ls (.long z :: .long x :: st) := by
  subst hp; exact w.plain fun T A t q => XT.lsub A K.hx rfl (K.dec hd) rfl q
theorem WP.lmul (K : Ok k l Z n0 rm bytes maxL y ret Q) {x : Int64} {z : Int64} (pc' : Nat) (hd : decode bytes pc = .ok (.lmul, 1)) (hp : pc + 1 = pc') (w : WP k h cells slots pc' ls (.long (x * z) :: st)) : WP k h cells slots pc ls (.long z :: .long x :: st) := by
  subst hp; exact w.plain fun T A t q => XT.lmul A K.hx rfl (K.dec hd) rfl q
theorem WP.land (K : Ok k l Z n0 rm bytes maxL y ret Q) {x : Int64} {z : Int64} (pc' : Nat) (hd : decode bytes pc = .ok (.land, 1)) (hp : pc + 1 = pc') (w : WP k h cells slots pc' ls (.long (x &&& z) :: st)) : WP k h cells slots pc ls (.long z :: .long x :: st) := by
  subst hp; exact w.plain fun T A t q => XT.land A K.hx rfl (K.dec hd) rfl q
theorem WP.lor (K : Ok k l Z n0 rm bytes maxL y ret Q) {x : Int64} {z : Int64} (pc' : Nat) (hd : decode bytes pc = .ok (.lor, 1)) (hp : pc + 1 = pc') (w : WP k h cells slots pc' ls (.long (x ||| z) :: st)) : WP k h cells slots pc ls (.long z :: .long x :: st) := by
  subst hp; exact w.plain fun T A t q => XT.lor A K.hx rfl (K.dec hd) rfl q
theorem WP.lxor (K : Ok k l Z n0 rm bytes maxL y ret Q) {x : Int64} {z : Int64} (pc' : Nat) (hd : decode bytes pc = .ok (.lxor, 1)) (hp : pc + 1 = pc') (w : WP k h cells slots pc' ls (.long (x ^^^ z) :: st)) : WP k h cells slots pc ls (.long z :: .long x :: st) := by
  subst hp; exact w.plain fun T A t q => XT.lxor A K.hx rfl (K.dec hd) rfl q
theorem WP.lshl (K : Ok k l Z n0 rm bytes maxL y ret Q) {x : Int64} {z : Int32} (pc' : Nat) (hd : decode bytes pc = .ok (.lshl, 1)) (hp : pc + 1 = pc') (w : WP k h cells slots pc' ls (.long (x <<< (z.toInt64 &&& 63)) :: st)) : WP k h cells slots pc ls (.int z :: .long x :: st) := by
  subst hp; exact w.plain fun T A t q => XT.lshl A K.hx rfl (K.dec hd) rfl q
theorem WP.lshr (K : Ok k l Z n0 rm bytes maxL y ret Q) {x : Int64} {z : Int32} (pc' : Nat) (hd : decode bytes pc = .ok (.lshr, 1)) (hp : pc + 1 = pc') (w : WP k h cells slots pc' ls (.long (x >>> (z.toInt64 &&& 63)) :: st)) : WP k h cells slots pc ls (.int z :: .long x :: st) := by
  subst hp; exact w.plain fun T A t q => XT.lshr A K.hx rfl (K.dec hd) rfl q
theorem WP.lushr (K : Ok k l Z n0 rm bytes maxL y ret Q) {x : Int64} {z : Int32} (pc' : Nat) (hd : decode bytes pc = .ok (.lushr, 1)) (hp : pc + 1 = pc') (w : WP k h cells slots pc' ls (.long (XT.ushrL x z) :: st)) : WP k h cells slots pc ls (.int z :: .long x :: st) := by
  subst hp; exact w.plain fun T A t q => XT.lushr A K.hx rfl (K.dec hd) rfl q
theorem WP.lcmp (K : Ok k l Z n0 rm bytes maxL y ret Q) {x : Int64} {z : Int64} (pc' : Nat) (hd : decode bytes pc = .ok (.lcmp, 1)) (hp : pc + 1 = pc') (w : WP k h cells slots pc' ls (.int (XT.cmpL x z) :: st)) : WP k h cells slots pc ls (.long z :: .long x :: st) := by
  subst hp; exact w.plain fun T A t q => XT.lcmp A K.hx rfl (K.dec hd) rfl q
theorem WP.idiv (K : Ok k l Z n0 rm bytes maxL y ret Q) {x z : Int32} (pc' : Nat) (hd : decode bytes pc = .ok (.idiv, 1)) (hp : pc + 1 = pc') (hz : z ≠ 0) (w : WP k h cells slots pc' ls (.int (x / z) :: st)) : WP k h cells slots pc ls (.int z :: .int x :: st) := by
  subst hp; exact w.plain fun T A t q => XS.idiv A K.hx rfl (K.dec hd) rfl hz q
theorem WP.irem (K : Ok k l Z n0 rm bytes maxL y ret Q) {x z : Int32} (pc' : Nat) (hd : decode bytes pc = .ok (.irem, 1)) (hp : pc + 1 = pc') (hz : z ≠ 0) (w : WP k h cells slots pc' ls (.int (x % z) :: st)) : WP k h cells slots pc ls (.int z :: .int x :: st) := by
  subst hp; rw [← irem_eq_mod] at w; exact w.plain fun T A t q => XS.irem A K.hx rfl (K.dec hd) rfl hz q
theorem WP.ineg (K : Ok k l Z n0 rm bytes maxL y ret Q) {x : Int32} (pc' : Nat) (hd : decode bytes pc = .ok (.ineg, 1)) (hp : pc + 1 = pc') (w : WP k h cells slots pc' ls (.int (-x) :: st)) : WP k h cells slots pc ls (.int x :: st) := by
  subst hp; exact w.plain fun T A t q => XS.ineg A K.hx rfl (K.dec hd) rfl q
theorem WP.lneg (K : Ok k l Z n0 rm bytes maxL y ret Q) {x : Int64} (pc' : Nat) (hd : decode bytes pc = .ok (.lneg, 1)) (hp : pc + 1 = pc') (w : WP k h cells slots pc' ls (.long (-x) :: st)) : WP k h cells slots pc ls (.long x :: st) := by
  subst hp; exact w.plain fun T A t q => XT.lneg A K.hx rfl (K.dec hd) rfl q
theorem WP.i2l (K : Ok k l Z n0 rm bytes maxL y ret Q) {x : Int32} (pc' : Nat) (hd : decode bytes pc = .ok (.i2l, 1)) (hp : pc + 1 = pc') (w : WP k h cells slots pc' ls (.long x.toInt64 :: st)) : WP k h cells slots pc ls (.int x :: st) := by
  subst hp; exact w.plain fun T A t q => XT.i2l A K.hx rfl (K.dec hd) rfl q
theorem WP.l2i (K : Ok k l Z n0 rm bytes maxL y ret Q) {x : Int64} (pc' : Nat) (hd : decode bytes pc = .ok (.l2i, 1)) (hp : pc + 1 = pc') (w : WP k h cells slots pc' ls (.int x.toInt32 :: st)) : WP k h cells slots pc ls (.long x :: st) := by
  subst hp; exact w.plain fun T A t q => XT.l2i A K.hx rfl (K.dec hd) rfl q
theorem WP.i2b (K : Ok k l Z n0 rm bytes maxL y ret Q) {x : Int32} (pc' : Nat) (hd : decode bytes pc = .ok (.i2b, 1)) (hp : pc + 1 = pc') (w : WP k h cells slots pc' ls (.int x.toInt8.toInt32 :: st)) : WP k h cells slots pc ls (.int x :: st) := by
  subst hp; exact w.plain fun T A t q => XT.i2b A K.hx rfl (K.dec hd) rfl q
theorem WP.i2c (K : Ok k l Z n0 rm bytes maxL y ret Q) {x : Int32} (pc' : Nat) (hd : decode bytes pc = .ok (.i2c, 1)) (hp : pc + 1 = pc') (w : WP k h cells slots pc' ls (.int x.toUInt32.toUInt16.toUInt32.toInt32 :: st)) : WP k h cells slots pc ls (.int x :: st) := by
  subst hp; exact w.plain fun T A t q => XT.i2c A K.hx rfl (K.dec hd) rfl q
theorem WP.i2s (K : Ok k l Z n0 rm bytes maxL y ret Q) {x : Int32} (pc' : Nat) (hd : decode bytes pc = .ok (.i2s, 1)) (hp : pc + 1 = pc') (w : WP k h cells slots pc' ls (.int x.toInt16.toInt32 :: st)) : WP k h cells slots pc ls (.int x :: st) := by
  subst hp; exact w.plain fun T A t q => XT.i2s A K.hx rfl (K.dec hd) rfl q
theorem WP.dup (K : Ok k l Z n0 rm bytes maxL y ret Q) {x : Value} (pc' : Nat) (hd : decode bytes pc = .ok (.dup, 1)) (hp : pc + 1 = pc') (hc : x.category = 1) (w : WP k h cells slots pc' ls (x :: x :: st)) : WP k h cells slots pc ls (x :: st) := by
  subst hp; exact w.plain fun T A t q => XS.dup A K.hx rfl (K.dec hd) rfl hc q
theorem WP.pop (K : Ok k l Z n0 rm bytes maxL y ret Q) {x : Value} (pc' : Nat) (hd : decode bytes pc = .ok (.pop, 1)) (hp : pc + 1 = pc') (hc : x.category = 1) (w : WP k h cells slots pc' ls st) : WP k h cells slots pc ls (x :: st) := by
  subst hp; exact w.plain fun T A t q => XT.pop A K.hx rfl (K.dec hd) rfl hc q
theorem WP.dupX1 (K : Ok k l Z n0 rm bytes maxL y ret Q) {x z : Value} (pc' : Nat) (hd : decode bytes pc = .ok (.dup_x1, 1)) (hp : pc + 1 = pc') (hc : x.category = 1) (hc' : z.category = 1) (w : WP k h cells slots pc' ls (x :: z :: x :: st)) : WP k h cells slots pc ls (x :: z :: st) := by
  subst hp; exact w.plain fun T A t q => XT.dupX1 A K.hx rfl (K.dec hd) rfl hc hc' q
theorem WP.dup2 (K : Ok k l Z n0 rm bytes maxL y ret Q) {x z : Value} (pc' : Nat) (hd : decode bytes pc = .ok (.dup2, 1)) (hp : pc + 1 = pc') (hc : x.category = 1) (hc' : z.category = 1) (w : WP k h cells slots pc' ls (x :: z :: x :: z :: st)) : WP k h cells slots pc ls (x :: z :: st) := by
  subst hp; exact w.plain fun T A t q => XT.dup2 A K.hx rfl (K.dec hd) rfl hc hc' q
theorem WP.dup2L (K : Ok k l Z n0 rm bytes maxL y ret Q) {x : Int64} (pc' : Nat) (hd : decode bytes pc = .ok (.dup2, 1)) (hp : pc + 1 = pc') (w : WP k h cells slots pc' ls (.long x :: .long x :: st)) : WP k h cells slots pc ls (.long x :: st) := by
  subst hp; exact w.plain fun T A t q => XT.dup2L A K.hx rfl (K.dec hd) rfl q
theorem WP.iinc (K : Ok k l Z n0 rm bytes maxL y ret Q) {i : Nat} {cst : Int} {x : Int32} (v : Int32) (pc' : Nat) (ls' : List Slot) (hd : decode bytes pc = .ok (.iinc i cst, 3)) (hp : pc + 3 = pc') (hv : Int32.ofInt cst = v) (hl : ls[i]? = some (.val (.int x))) (hl' : storeLocals ls.toArray i (.int (x + v)) = some ls'.toArray) (w : WP k h cells slots pc' ls' st) : WP k h cells slots pc ls st := by
  subst hp; exact w.plain fun T A t q => XT.iincV A K.hx rfl v (K.dec hd) hv (arrGet hl) hl' q
theorem WP.goto (K : Ok k l Z n0 rm bytes maxL y ret Q) {o : Int} (pc' : Nat) (hd : decode bytes pc = .ok (.goto o, 3)) (hp : (pc : Int) + o = pc') (w : WP k h cells slots pc' ls st) : WP k h cells slots pc ls st :=
  w.plain fun T A t q => XS.goto A K.hx rfl (pc0 := pc) (pc' := pc') rfl (K.dec hd) (by omega) (by omega) q
theorem WP.icmp (K : Ok k l Z n0 rm bytes maxL y ret Q) {cd : ClassFile.Cond} {o : Int} {x z : Int32} (tp fp : Nat) (hd : decode bytes pc = .ok (.if_icmp cd o, 3)) (ht : (pc : Int) + o = tp) (hf : pc + 3 = fp)
    (wt : if_icmp.holds cd x z = true → WP k h cells slots tp ls st) (wf : if_icmp.holds cd x z = false → WP k h cells slots fp ls st) : WP k h cells slots pc ls (.int z :: .int x :: st) := by
  subst hf
  cases hh : if_icmp.holds cd x z
  · exact (wf hh).plain fun T A t q => XS.icmpNo A K.hx rfl (K.dec hd) rfl hh q
  · exact (wt hh).plain fun T A t q => XS.icmpYes A K.hx rfl (pc0 := pc) (pc' := tp) rfl (K.dec hd) rfl hh (by omega) (by omega) q
theorem WP.if0 (K : Ok k l Z n0 rm bytes maxL y ret Q) {cd : ClassFile.Cond} {o : Int} {x : Int32} (tp fp : Nat) (hd : decode bytes pc = .ok (.ifCond cd o, 3)) (ht : (pc : Int) + o = tp) (hf : pc + 3 = fp)
    (wt : ifCond.holds cd x = true → WP k h cells slots tp ls st) (wf : ifCond.holds cd x = false → WP k h cells slots fp ls st) : WP k h cells slots pc ls (.int x :: st) := by
  subst hf
  cases hh : ifCond.holds cd x
  · exact (wf hh).plain fun T A t q => XS.ifNo A K.hx rfl (K.dec hd) rfl hh q
  · exact (wt hh).plain fun T A t q => XS.ifYes A K.hx rfl (pc0 := pc) (pc' := tp) rfl (K.dec hd) rfl hh (by omega) (by omega) q
theorem h_lt {x z : Int32} : if_icmp.holds .lt x z = decide (x.toInt < z.toInt) := by simp [if_icmp.holds, Int32.lt_iff_toInt_lt]
theorem h_ge {x z : Int32} : if_icmp.holds .ge x z = decide (z.toInt ≤ x.toInt) := by simp [if_icmp.holds, Int32.le_iff_toInt_le]
theorem h_gt {x z : Int32} : if_icmp.holds .gt x z = decide (z.toInt < x.toInt) := by simp [if_icmp.holds, Int32.lt_iff_toInt_lt]
theorem h_le {x z : Int32} : if_icmp.holds .le x z = decide (x.toInt ≤ z.toInt) := by simp [if_icmp.holds, Int32.le_iff_toInt_le]
theorem h_eq {x z : Int32} : if_icmp.holds .eq x z = decide (x.toInt = z.toInt) := by
  rw [Bool.eq_iff_iff, decide_eq_true_iff, Int32.toInt_inj]; simp [if_icmp.holds]
theorem h_ne {x z : Int32} : if_icmp.holds .ne x z = decide (x.toInt ≠ z.toInt) := by
  by_cases q : x = z <;> simp [if_icmp.holds, Int32.toInt_inj, q]
theorem WP.icmp_lt (K : Ok k l Z n0 rm bytes maxL y ret Q) {o : Int} {x z : Int32} (tp fp : Nat) (hd : decode bytes pc = .ok (.if_icmp .lt o, 3)) (ht : (pc : Int) + o = tp) (hf : pc + 3 = fp)
    (wt : x.toInt < z.toInt → WP k h cells slots tp ls st) (wf : z.toInt ≤ x.toInt → WP k h cells slots fp ls st) : WP k h cells slots pc ls (.int z :: .int x :: st) :=
  WP.icmp K tp fp hd ht hf (fun q => wt (by rw [h_lt] at q; exact of_decide_eq_true q)) (fun q => wf (by rw [h_lt] at q; have q := of_decide_eq_false q; omega))
theorem WP.if_lt (K : Ok k l Z n0 rm bytes maxL y ret Q) {o : Int} {x : Int32} (tp fp : Nat) (hd : decode bytes pc = .ok (.ifCond .lt o, 3)) (ht : (pc : Int) + o = tp) (hf : pc + 3 = fp)
    (wt : x.toInt < 0 → WP k h cells slots tp ls st) (wf : 0 ≤ x.toInt → WP k h cells slots fp ls st) : WP k h cells slots pc ls (.int x :: st) :=
  WP.if0 K tp fp hd ht hf (fun q => wt (by rw [RoadKit.if0, h_lt] at q; exact of_decide_eq_true q)) (fun q => wf (by rw [RoadKit.if0, h_lt] at q; have q := of_decide_eq_false q; rw [show (0 : Int32).toInt = 0 from rfl] at q; omega))
theorem WP.ifl_lt (K : Ok k l Z n0 rm bytes maxL y ret Q) {o : Int} {x z : Int64} (tp fp : Nat) (hd : decode bytes pc = .ok (.ifCond .lt o, 3)) (ht : (pc : Int) + o = tp) (hf : pc + 3 = fp)
    (wt : x.toInt < z.toInt → WP k h cells slots tp ls st) (wf : z.toInt ≤ x.toInt → WP k h cells slots fp ls st) : WP k h cells slots pc ls (.int (XT.cmpL x z) :: st) := by
  refine WP.if0 K tp fp hd ht hf (fun q => ?_) (fun q => ?_)
  · refine wt ?_
    false_or_by_contra
    rename_i c
    rw [XT.ll_lt_f (by simp only [Int64.lt_iff_toInt_lt, ← Int64.toInt_inj]; omega)] at q; cases q
  · refine wf ?_
    false_or_by_contra
    rename_i c
    rw [XT.ll_lt_t (by simp only [Int64.lt_iff_toInt_lt, ← Int64.toInt_inj]; omega)] at q; cases q
theorem WP.icmp_ge (K : Ok k l Z n0 rm bytes maxL y ret Q) {o : Int} {x z : Int32} (tp fp : Nat) (hd : decode bytes pc = .ok (.if_icmp .ge o, 3)) (ht : (pc : Int) + o = tp) (hf : pc + 3 = fp)
    (wt : z.toInt ≤ x.toInt → WP k h cells slots tp ls st) (wf : x.toInt < z.toInt → WP k h cells slots fp ls st) : WP k h cells slots pc ls (.int z :: .int x :: st) :=
  WP.icmp K tp fp hd ht hf (fun q => wt (by rw [h_ge] at q; exact of_decide_eq_true q)) (fun q => wf (by rw [h_ge] at q; have q := of_decide_eq_false q; omega))
theorem WP.if_ge (K : Ok k l Z n0 rm bytes maxL y ret Q) {o : Int} {x : Int32} (tp fp : Nat) (hd : decode bytes pc = .ok (.ifCond .ge o, 3)) (ht : (pc : Int) + o = tp) (hf : pc + 3 = fp)
    (wt : 0 ≤ x.toInt → WP k h cells slots tp ls st) (wf : x.toInt < 0 → WP k h cells slots fp ls st) : WP k h cells slots pc ls (.int x :: st) :=
  WP.if0 K tp fp hd ht hf (fun q => wt (by rw [RoadKit.if0, h_ge] at q; exact of_decide_eq_true q)) (fun q => wf (by rw [RoadKit.if0, h_ge] at q; have q := of_decide_eq_false q; rw [show (0 : Int32).toInt = 0 from rfl] at q; omega))
theorem WP.ifl_ge (K : Ok k l Z n0 rm bytes maxL y ret Q) {o : Int} {x z : Int64} (tp fp : Nat) (hd : decode bytes pc = .ok (.ifCond .ge o, 3)) (ht : (pc : Int) + o = tp) (hf : pc + 3 = fp)
    (wt : z.toInt ≤ x.toInt → WP k h cells slots tp ls st) (wf : x.toInt < z.toInt → WP k h cells slots fp ls st) : WP k h cells slots pc ls (.int (XT.cmpL x z) :: st) := by
  refine WP.if0 K tp fp hd ht hf (fun q => ?_) (fun q => ?_)
  · refine wt ?_
    false_or_by_contra
    rename_i c
    rw [XT.ll_ge_f (by simp only [Int64.lt_iff_toInt_lt, ← Int64.toInt_inj]; omega)] at q; cases q
  · refine wf ?_
    false_or_by_contra
    rename_i c
    rw [XT.ll_ge_t (by simp only [Int64.lt_iff_toInt_lt, ← Int64.toInt_inj]; omega)] at q; cases q
theorem WP.icmp_gt (K : Ok k l Z n0 rm bytes maxL y ret Q) {o : Int} {x z : Int32} (tp fp : Nat) (hd : decode bytes pc = .ok (.if_icmp .gt o, 3)) (ht : (pc : Int) + o = tp) (hf : pc + 3 = fp)
    (wt : z.toInt < x.toInt → WP k h cells slots tp ls st) (wf : x.toInt ≤ z.toInt → WP k h cells slots fp ls st) : WP k h cells slots pc ls (.int z :: .int x :: st) :=
  WP.icmp K tp fp hd ht hf (fun q => wt (by rw [h_gt] at q; exact of_decide_eq_true q)) (fun q => wf (by rw [h_gt] at q; have q := of_decide_eq_false q; omega))
theorem WP.if_gt (K : Ok k l Z n0 rm bytes maxL y ret Q) {o : Int} {x : Int32} (tp fp : Nat) (hd : decode bytes pc = .ok (.ifCond .gt o, 3)) (ht : (pc : Int) + o = tp) (hf : pc + 3 = fp)
    (wt : 0 < x.toInt → WP k h cells slots tp ls st) (wf : x.toInt ≤ 0 → WP k h cells slots fp ls st) : WP k h cells slots pc ls (.int x :: st) :=
  WP.if0 K tp fp hd ht hf (fun q => wt (by rw [RoadKit.if0, h_gt] at q; exact of_decide_eq_true q)) (fun q => wf (by rw [RoadKit.if0, h_gt] at q; have q := of_decide_eq_false q; rw [show (0 : Int32).toInt = 0 from rfl] at q; omega))
theorem WP.ifl_gt (K : Ok k l Z n0 rm bytes maxL y ret Q) {o : Int} {x z : Int64} (tp fp : Nat) (hd : decode bytes pc = .ok (.ifCond .gt o, 3)) (ht : (pc : Int) + o = tp) (hf : pc + 3 = fp)
    (wt : z.toInt < x.toInt → WP k h cells slots tp ls st) (wf : x.toInt ≤ z.toInt → WP k h cells slots fp ls st) : WP k h cells slots pc ls (.int (XT.cmpL x z) :: st) := by
  refine WP.if0 K tp fp hd ht hf (fun q => ?_) (fun q => ?_)
  · refine wt ?_
    false_or_by_contra
    rename_i c
    rw [XT.ll_gt_f (by simp only [Int64.lt_iff_toInt_lt, ← Int64.toInt_inj]; omega)] at q; cases q
  · refine wf ?_
    false_or_by_contra
    rename_i c
    rw [XT.ll_gt_t (by simp only [Int64.lt_iff_toInt_lt, ← Int64.toInt_inj]; omega)] at q; cases q
theorem WP.icmp_le (K : Ok k l Z n0 rm bytes maxL y ret Q) {o : Int} {x z : Int32} (tp fp : Nat) (hd : decode bytes pc = .ok (.if_icmp .le o, 3)) (ht : (pc : Int) + o = tp) (hf : pc + 3 = fp)
    (wt : x.toInt ≤ z.toInt → WP k h cells slots tp ls st) (wf : z.toInt < x.toInt → WP k h cells slots fp ls st) : WP k h cells slots pc ls (.int z :: .int x :: st) :=
  WP.icmp K tp fp hd ht hf (fun q => wt (by rw [h_le] at q; exact of_decide_eq_true q)) (fun q => wf (by rw [h_le] at q; have q := of_decide_eq_false q; omega))
theorem WP.if_le (K : Ok k l Z n0 rm bytes maxL y ret Q) {o : Int} {x : Int32} (tp fp : Nat) (hd : decode bytes pc = .ok (.ifCond .le o, 3)) (ht : (pc : Int) + o = tp) (hf : pc + 3 = fp)
    (wt : x.toInt ≤ 0 → WP k h cells slots tp ls st) (wf : 0 < x.toInt → WP k h cells slots fp ls st) : WP k h cells slots pc ls (.int x :: st) :=
  WP.if0 K tp fp hd ht hf (fun q => wt (by rw [RoadKit.if0, h_le] at q; exact of_decide_eq_true q)) (fun q => wf (by rw [RoadKit.if0, h_le] at q; have q := of_decide_eq_false q; rw [show (0 : Int32).toInt = 0 from rfl] at q; omega))
theorem WP.ifl_le (K : Ok k l Z n0 rm bytes maxL y ret Q) {o : Int} {x z : Int64} (tp fp : Nat) (hd : decode bytes pc = .ok (.ifCond .le o, 3)) (ht : (pc : Int) + o = tp) (hf : pc + 3 = fp)
    (wt : x.toInt ≤ z.toInt → WP k h cells slots tp ls st) (wf : z.toInt < x.toInt → WP k h cells slots fp ls st) : WP k h cells slots pc ls (.int (XT.cmpL x z) :: st) := by
  refine WP.if0 K tp fp hd ht hf (fun q => ?_) (fun q => ?_)
  · refine wt ?_
    false_or_by_contra
    rename_i c
    rw [XT.ll_le_f (by simp only [Int64.lt_iff_toInt_lt, ← Int64.toInt_inj]; omega)] at q; cases q
  · refine wf ?_
    false_or_by_contra
    rename_i c
    rw [XT.ll_le_t (by simp only [Int64.lt_iff_toInt_lt, ← Int64.toInt_inj]; omega)] at q; cases q
theorem WP.icmp_eq (K : Ok k l Z n0 rm bytes maxL y ret Q) {o : Int} {x z : Int32} (tp fp : Nat) (hd : decode bytes pc = .ok (.if_icmp .eq o, 3)) (ht : (pc : Int) + o = tp) (hf : pc + 3 = fp)
    (wt : x.toInt = z.toInt → WP k h cells slots tp ls st) (wf : x.toInt ≠ z.toInt → WP k h cells slots fp ls st) : WP k h cells slots pc ls (.int z :: .int x :: st) :=
  WP.icmp K tp fp hd ht hf (fun q => wt (by rw [h_eq] at q; exact of_decide_eq_true q)) (fun q => wf (by rw [h_eq] at q; have q := of_decide_eq_false q; omega))
theorem WP.if_eq (K : Ok k l Z n0 rm bytes maxL y ret Q) {o : Int} {x : Int32} (tp fp : Nat) (hd : decode bytes pc = .ok (.ifCond .eq o, 3)) (ht : (pc : Int) + o = tp) (hf : pc + 3 = fp)
    (wt : x.toInt = 0 → WP k h cells slots tp ls st) (wf : x.toInt ≠ 0 → WP k h cells slots fp ls st) : WP k h cells slots pc ls (.int x :: st) :=
  WP.if0 K tp fp hd ht hf (fun q => wt (by rw [RoadKit.if0, h_eq] at q; exact of_decide_eq_true q)) (fun q => wf (by rw [RoadKit.if0, h_eq] at q; have q := of_decide_eq_false q; rw [show (0 : Int32).toInt = 0 from rfl] at q; omega))
theorem WP.ifl_eq (K : Ok k l Z n0 rm bytes maxL y ret Q) {o : Int} {x z : Int64} (tp fp : Nat) (hd : decode bytes pc = .ok (.ifCond .eq o, 3)) (ht : (pc : Int) + o = tp) (hf : pc + 3 = fp)
    (wt : x.toInt = z.toInt → WP k h cells slots tp ls st) (wf : x.toInt ≠ z.toInt → WP k h cells slots fp ls st) : WP k h cells slots pc ls (.int (XT.cmpL x z) :: st) := by
  refine WP.if0 K tp fp hd ht hf (fun q => ?_) (fun q => ?_)
  · refine wt ?_
    false_or_by_contra
    rename_i c
    rw [XT.ll_eq_f (by simp only [Int64.lt_iff_toInt_lt, ← Int64.toInt_inj]; omega)] at q; cases q
  · refine wf ?_
    false_or_by_contra
    rename_i c
    rw [XT.ll_eq_t (by simp only [Int64.lt_iff_toInt_lt, ← Int64.toInt_inj]; omega)] at q; cases q
theorem WP.icmp_ne (K : Ok k l Z n0 rm bytes maxL y ret Q) {o : Int} {x z : Int32} (tp fp : Nat) (hd : decode bytes pc = .ok (.if_icmp .ne o, 3)) (ht : (pc : Int) + o = tp) (hf : pc + 3 = fp)
    (wt : x.toInt ≠ z.toInt → WP k h cells slots tp ls st) (wf : x.toInt = z.toInt → WP k h cells slots fp ls st) : WP k h cells slots pc ls (.int z :: .int x :: st) :=
  WP.icmp K tp fp hd ht hf (fun q => wt (by rw [h_ne] at q; exact of_decide_eq_true q)) (fun q => wf (by rw [h_ne] at q; have q := of_decide_eq_false q; omega))
theorem WP.if_ne (K : Ok k l Z n0 rm bytes maxL y ret Q) {o : Int} {x : Int32} (tp fp : Nat) (hd : decode bytes pc = .ok (.ifCond .ne o, 3)) (ht : (pc : Int) + o = tp) (hf : pc + 3 = fp)
    (wt : x.toInt ≠ 0 → WP k h cells slots tp ls st) (wf : x.toInt = 0 → WP k h cells slots fp ls st) : WP k h cells slots pc ls (.int x :: st) :=
  WP.if0 K tp fp hd ht hf (fun q => wt (by rw [RoadKit.if0, h_ne] at q; exact of_decide_eq_true q)) (fun q => wf (by rw [RoadKit.if0, h_ne] at q; have q := of_decide_eq_false q; rw [show (0 : Int32).toInt = 0 from rfl] at q; omega))
theorem WP.ifl_ne (K : Ok k l Z n0 rm bytes maxL y ret Q) {o : Int} {x z : Int64} (tp fp : Nat) (hd : decode bytes pc = .ok (.ifCond .ne o, 3)) (ht : (pc : Int) + o = tp) (hf : pc + 3 = fp)
    (wt : x.toInt ≠ z.toInt → WP k h cells slots tp ls st) (wf : x.toInt = z.toInt → WP k h cells slots fp ls st) : WP k h cells slots pc ls (.int (XT.cmpL x z) :: st) := by
  refine WP.if0 K tp fp hd ht hf (fun q => ?_) (fun q => ?_)
  · refine wt ?_
    false_or_by_contra
    rename_i c
    rw [XT.ll_ne_f (by simp only [Int64.lt_iff_toInt_lt, ← Int64.toInt_inj]; omega)] at q; cases q
  · refine wf ?_
    false_or_by_contra
    rename_i c
    rw [XT.ll_ne_t (by simp only [Int64.lt_iff_toInt_lt, ← Int64.toInt_inj]; omega)] at q; cases q
theorem WP.ifnull_n (K : Ok k l Z n0 rm bytes maxL y ret Q) {o : Int} (tp : Nat) (hd : decode bytes pc = .ok (.ifnull o, 3)) (ht : (pc : Int) + o = tp) (w : WP k h cells slots tp ls st) : WP k h cells slots pc ls (.null :: st) :=
  w.plain fun T A t q => XS.ifnullYes A K.hx rfl (pc0 := pc) (pc' := tp) rfl (K.dec hd) rfl (by omega) (by omega) q
theorem WP.ifnull_r (K : Ok k l Z n0 rm bytes maxL y ret Q) {o : Int} {b : Addr} (fp : Nat) (hd : decode bytes pc = .ok (.ifnull o, 3)) (hf : pc + 3 = fp) (w : WP k h cells slots fp ls st) : WP k h cells slots pc ls (.ref b :: st) := by
  subst hf; exact w.plain fun T A t q => XS.ifnullNo A K.hx rfl (K.dec hd) rfl q
theorem WP.ifnonnull_r (K : Ok k l Z n0 rm bytes maxL y ret Q) {o : Int} {b : Addr} (tp : Nat) (hd : decode bytes pc = .ok (.ifnonnull o, 3)) (ht : (pc : Int) + o = tp) (w : WP k h cells slots tp ls st) : WP k h cells slots pc ls (.ref b :: st) :=
  w.plain fun T A t q => XT.ifnonnullYes A K.hx rfl (pc0 := pc) (pc' := tp) rfl (K.dec hd) rfl (by omega) (by omega) q
theorem WP.ifnonnull_n (K : Ok k l Z n0 rm bytes maxL y ret Q) {o : Int} (fp : Nat) (hd : decode bytes pc = .ok (.ifnonnull o, 3)) (hf : pc + 3 = fp) (w : WP k h cells slots fp ls st) : WP k h cells slots pc ls (.null :: st) := by
  subst hf; exact w.plain fun T A t q => XT.ifnonnullNo A K.hx rfl (K.dec hd) rfl q
theorem WP.acmp_eq (K : Ok k l Z n0 rm bytes maxL y ret Q) {o : Int} {x z : Value} (tp fp : Nat) (hd : decode bytes pc = .ok (.if_acmp .eq o, 3)) (ht : (pc : Int) + o = tp) (hf : pc + 3 = fp) (hx : x.isRef = true) (hz : z.isRef = true)
    (wt : x = z → WP k h cells slots tp ls st) (wf : x ≠ z → WP k h cells slots fp ls st) : WP k h cells slots pc ls (z :: x :: st) := by
  subst hf
  by_cases c : x = z
  · exact (wt c).plain fun T A t q => XT.acmpYes A K.hx rfl (pc0 := pc) (pc' := tp) rfl (K.dec hd) rfl hx hz (XT.aa_eq_t c) (by omega) (by omega) q
  · exact (wf c).plain fun T A t q => XT.acmpNo A K.hx rfl (K.dec hd) rfl hx hz (XT.aa_eq_f c) q
theorem WP.acmp_ne (K : Ok k l Z n0 rm bytes maxL y ret Q) {o : Int} {x z : Value} (tp fp : Nat) (hd : decode bytes pc = .ok (.if_acmp .ne o, 3)) (ht : (pc : Int) + o = tp) (hf : pc + 3 = fp) (hx : x.isRef = true) (hz : z.isRef = true)
    (wt : x ≠ z → WP k h cells slots tp ls st) (wf : x = z → WP k h cells slots fp ls st) : WP k h cells slots pc ls (z :: x :: st) := by
  subst hf
  by_cases c : x = z
  · exact (wf c).plain fun T A t q => XT.acmpNo A K.hx rfl (K.dec hd) rfl hx hz (XT.aa_ne_f c) q
  · exact (wt c).plain fun T A t q => XT.acmpYes A K.hx rfl (pc0 := pc) (pc' := tp) rfl (K.dec hd) rfl hx hz (XT.aa_ne_t c) (by omega) (by omega) q
theorem WP.tsw (K : Ok k l Z n0 rm bytes maxL y ret Q) {d lo hi : Int} {offs : Array Int} {len : Nat} {i : Int32} (dp : Nat) (hd : decode bytes pc = .ok (.tableswitch d lo hi offs, len)) (hdp : (pc : Int) + d = dp)
    (win : ∀ j o, i.toInt = lo + (j : Nat) → i.toInt ≤ hi → offs[j]? = some o → 0 ≤ (pc : Int) + o ∧ WP k h cells slots ((pc : Int) + o).toNat ls st) (hsz : hi - lo < offs.size) (wout : i.toInt < lo ∨ hi < i.toInt → WP k h cells slots dp ls st) : WP k h cells slots pc ls (.int i :: st) := by
  by_cases c : i.toInt < lo ∨ i.toInt > hi
  · exact (wout c).plain fun T A t q => XS.tswOut A K.hx rfl (pc0 := pc) (pc' := dp) rfl (K.dec hd) rfl c (by omega) (by omega) q
  · have hj : (i.toInt - lo).toNat < offs.size := by omega
    obtain ⟨h0, w⟩ := win (i.toInt - lo).toNat _ (by omega) (by omega) (Array.getElem?_eq_getElem hj)
    exact w.plain fun T A t q => XS.tswIn A K.hx rfl (pc0 := pc) rfl (K.dec hd) rfl c (Array.getElem?_eq_getElem hj) h0 rfl q
theorem WP.ldcI (K : Ok k l Z n0 rm bytes maxL y ret Q) {a0 : Array Value} {i : Nat} {v : Int32} (pc' : Nat) (hw : (Jvm.Cond.constant y.cls i v).before a0 Z = true) (hd : decode bytes pc = .ok (.ldc i, 2)) (hp : pc + 2 = pc') (w : WP k h cells slots pc' ls (.int v :: st)) : WP k h cells slots pc ls st := by
  subst hp; exact fun T locs X e N => End.back (fun t q => Stand.ldcI X K.hx K.hown (mvT K.hZ hw) rfl (K.dec hd) q) (w T locs X e N)
theorem WP.ldcWI (K : Ok k l Z n0 rm bytes maxL y ret Q) {a0 : Array Value} {i : Nat} {v : Int32} (pc' : Nat) (hw : (Jvm.Cond.constant y.cls i v).before a0 Z = true) (hd : decode bytes pc = .ok (.ldc_w i, 3)) (hp : pc + 3 = pc') (w : WP k h cells slots pc' ls (.int v :: st)) : WP k h cells slots pc ls st := by
  subst hp; exact fun T locs X e N => End.back (fun t q => Stand.ldcWI X K.hx K.hown (mvT K.hZ hw) rfl (K.dec hd) q) (w T locs X e N)
theorem WP.ldc2J (K : Ok k l Z n0 rm bytes maxL y ret Q) {a0 : Array Value} {i : Nat} {v : Int64} (pc' : Nat) (hw : (Jvm.Cond.constantLong y.cls i v).before a0 Z = true) (hd : decode bytes pc = .ok (.ldc2_w i, 3)) (hp : pc + 3 = pc') (w : WP k h cells slots pc' ls (.long v :: st)) : WP k h cells slots pc ls st := by
  subst hp; exact fun T locs X e N => End.back (fun t q => Stand.ldc2J X K.hx K.hown (mvT K.hZ hw) rfl (K.dec hd) q) (w T locs X e N)
theorem WP.leave (K : Ok k l Z n0 rm bytes maxL y ret Q) (v : Option Value) (hv : k.meth.sig.returnType = none → v = none) (hq : Q v h) (hc : cells ≤ rm.cells) (hs : slots ≤ rm.slots)
    (st' : ∀ (T : State) (locs : List Loc), k.St T locs cells slots → ∀ fs, (∀ (f : JFrame) (acts : List Action), f.method = k.m → f.locked = none → f.entered = [] → (doReturn k.e (T.setTop f) acts v).1 = T.setFrames fs) → Steps k.p.tables k.e k.below (T.setTop (mkF k.m pc ls.toArray st)) (T.setFrames fs)) : WP k h cells slots pc ls st := by
  intro T locs X e N
  obtain ⟨fs, hr, hrun, hended, hW, hsame⟩ := Stand.leave X (v := v) hv K.hlk
  have hq' : Q v (T.setFrames fs).heap := by show Q v T.heap; rw [e]; exact hq
  refine ⟨_, _, st' T locs X fs hr, hrun, hended, v, locs, rfl, ⟨by rw [K.hQ]; exact hq', N⟩, K.hfin v _ locs hq' ⟨⟨_, rfl⟩, hW, hsame.mono (by rw [K.hR]; exact hc) (by rw [K.hR]; exact hs)⟩⟩
theorem WP.retV (K : Ok k l Z n0 rm bytes maxL y ret Q) (hr : ret = none) (hd : decode bytes pc = .ok (.return_, 1)) (hq : Q none h) (hc : cells ≤ rm.cells) (hs : slots ≤ rm.slots) : WP k h cells slots pc ls [] :=
  WP.leave K none (fun _ => rfl) hq hc hs fun T locs X fs hl => Stand.returnOut X K.hx (K.hret.trans hr) (K.dec hd) hl
theorem WP.iret (K : Ok k l Z n0 rm bytes maxL y ret Q) {z : Int32} {t : FieldType} (hr : ret = some t) (ht : t = .int ∨ t = .boolean ∨ t = .byte ∨ t = .char ∨ t = .short) (hn : narrow t (.int z) = .int z) (hd : decode bytes pc = .ok (.ireturn, 1)) (hq : Q (some (.int z)) h) (hc : cells ≤ rm.cells) (hs : slots ≤ rm.slots) : WP k h cells slots pc ls (.int z :: st) :=
  WP.leave K (some (.int z)) (fun q => by rw [K.hret, hr] at q; cases q) hq hc hs fun T locs X fs hl => RoadKit.retOut X K.hx (K.hret.trans hr) hn (Or.inl ⟨rfl, ht, z, rfl⟩) (K.dec hd) hl
theorem WP.lret (K : Ok k l Z n0 rm bytes maxL y ret Q) {z : Int64} (hr : ret = some .long) (hd : decode bytes pc = .ok (.lreturn, 1)) (hq : Q (some (.long z)) h) (hc : cells ≤ rm.cells) (hs : slots ≤ rm.slots) : WP k h cells slots pc ls (.long z :: st) :=
  WP.leave K (some (.long z)) (fun q => by rw [K.hret, hr] at q; cases q) hq hc hs fun T locs X fs hl => RoadKit.retOut X K.hx (K.hret.trans hr) rfl (Or.inr (Or.inl ⟨rfl, rfl, z, rfl⟩)) (K.dec hd) hl
theorem WP.aret (K : Ok k l Z n0 rm bytes maxL y ret Q) {v : Value} {t : FieldType} (hr : ret = some t) (ht : t.isReference = true) (hn : narrow t v = v) (hv : v.isRef = true) (hd : decode bytes pc = .ok (.areturn, 1)) (hq : Q (some v) h) (hc : cells ≤ rm.cells) (hs : slots ≤ rm.slots) : WP k h cells slots pc ls (v :: st) :=
  WP.leave K (some v) (fun q => by rw [K.hret, hr] at q; cases q) hq hc hs fun T locs X fs hl => RoadKit.retOut X K.hx (K.hret.trans hr) hn (Or.inr (Or.inr (Or.inr (Or.inr ⟨rfl, ht, hv⟩)))) (K.dec hd) hl
theorem nar_bit {z : Int32} (q : z = 0 ∨ z = 1) : narrow .boolean (.int z) = .int z := by rcases q with rfl | rfl <;> rfl
end Plain
section HeapSteps
variable {k : Cx} {l : Launch} {Z : State} {n0 : Nat} {rm : Room} {bytes : ByteArray} {maxL : Nat} {y : MethodName} {ret : Option FieldType} {Q : Option Value → Heap → Prop} {h h' : Heap} {cells slots pc : Nat} {ls : List Slot} {st : List Value} {a0 : Array Value} {a b : Addr}
theorem ne_addr {a b : Nat} (h : a ≠ b) : @Ne Addr a b := h
theorem nm0 {a : Nat} (h : (0 : Nat) = 0) : a ∉ ([] : List Addr) := List.not_mem_nil
theorem ks0 {n : Nat} {ws : List Addr} : ∀ x ∈ ([] : List Addr), x ∈ ws ∨ n ≤ x := fun x hx => absurd hx List.not_mem_nil
theorem nm1 {a b : Nat} (h : a ≠ b) : a ∉ ([b] : List Addr) := by intro q; exact h (List.mem_singleton.mp q)
theorem nm2 {a b c : Nat} (h : a ≠ b ∧ a ≠ c) : a ∉ ([b, c] : List Addr) := by
  intro q
  rcases List.mem_cons.mp q with q | q
  · exact h.1 q
  · exact h.2 (List.mem_singleton.mp q)
theorem ks1 {b n : Nat} {ws : List Addr} (h : b ∈ ws ∨ n ≤ b) : ∀ x ∈ ([b] : List Addr), x ∈ ws ∨ n ≤ x := fun x hx => by cases List.mem_singleton.mp hx; exact h
theorem ks2 {b c n : Nat} {ws : List Addr} (h : b ∈ ws ∨ n ≤ b) (h' : c ∈ ws ∨ n ≤ c) : ∀ x ∈ ([b, c] : List Addr), x ∈ ws ∨ n ≤ x := fun x hx => by
  rcases List.mem_cons.mp hx with q | q
  · rw [q]; exact h
  · cases List.mem_singleton.mp q; exact h'
theorem ext_keep (E : Ext h h') (ws : List Addr) : Keep h h' ws := (Keep.refl h ws).ext E
theorem keep_sub {ws ws' : List Addr} (K : Keep h h' ws) (q : ∀ x ∈ ws, x ∈ ws') : Keep h h' ws' := ⟨K.1, fun x c e r => K.2.1 x c e fun z => r (q x z), K.2.2⟩
theorem keep_trans {h'' : Heap} {ws : List Addr} (K : Keep h h' ws) (K' : Keep h' h'' ws) : Keep h h'' ws := K.trans K' fun x hx => Or.inl hx
theorem WP.getfield (K : Ok k l Z n0 rm bytes maxL y ret Q) {i : Nat} {R0 O n d host : String} {v : Value} (pc' : Nat) (hw : (Jvm.Cond.fieldLink y.cls i R0 n d).before a0 Z = true ∨ (Jvm.Cond.fieldLinkNest y.cls i R0 n d host).before a0 Z = true) (via : Via Z R0 O n d) (F : Fld Z h a O n d v) (hd : decode bytes pc = .ok (.getfield i, 3)) (hp : pc + 3 = pc')
    (w : WP k h cells slots pc' ls (v :: st)) : WP k h cells slots pc ls (.ref a :: st) := by
  subst hp
  intro T locs X e N
  obtain ⟨T', X', e', stp⟩ := getF X K.hx K.hZ K.hown hw via e F (g := mkF k.m pc ls.toArray (.ref a :: st)) rfl rfl (K.dec hd)
  exact End.back stp (w T' locs X' e' N)
theorem WP.getstatic (K : Ok k l Z n0 rm bytes maxL y ret Q) {i : Nat} {R0 O n d : String} {v : Value} (pc' : Nat) (hw : (Jvm.Cond.fieldLink y.cls i R0 n d).before a0 Z = true) (via : Via Z R0 O n d) (F : Sta Z h O n d v) (hd : decode bytes pc = .ok (.getstatic i, 3)) (hp : pc + 3 = pc')
    (w : WP k h cells slots pc' ls (v :: st)) : WP k h cells slots pc ls st := by
  subst hp
  intro T locs X e N
  obtain ⟨T', X', e', stp⟩ := getS X K.hx K.hZ K.hown (host := "") hw via e F (g := mkF k.m pc ls.toArray st) rfl (K.dec hd)
  exact End.back stp (w T' locs X' e' N)
theorem WP.putfield (K : Ok k l Z n0 rm bytes maxL y ret Q) {i kk : Nat} {R0 O n d host C : String} {v old : Value} {ty : FieldType} (pc' : Nat) (hw : (Jvm.Cond.fieldLink y.cls i R0 n d).before a0 Z = true ∨ (Jvm.Cond.fieldLinkNest y.cls i R0 n d host).before a0 Z = true) (via : Via Z R0 O n d) (F : Fld Z h a O n d old) (E : Exa Z h a C)
    (L : (Jvm.Cond.lays C O n d).before a0 Z = true ∨ ((Jvm.Cond.laysFinal C O n d).before a0 Z = true ∧ y.cls = O ∧ y.name = "<init>")) (wi : (Jvm.Cond.instantiable C kk).before a0 Z = true)
    (hty : parseFieldDescriptor d = some ty) (hn : narrow ty v = v) (hf : fits ty v = true) (hd : decode bytes pc = .ok (.putfield i, 3)) (hp : pc + 3 = pc') (ha : n0 ≤ a)
    (w : ∀ h', Wr h h' a (RoadKit.slotOf Z O n d) v → WP k h' cells slots pc' ls st) : WP k h cells slots pc ls (v :: .ref a :: st) := by
  subst hp
  intro T locs X e N
  obtain ⟨T', h', X', e', W', stp⟩ := putF X K.hx K.hZ K.hown hw via e F E (L.imp id fun q => ⟨q.1, q.2.1, by rw [K.hnm]; exact q.2.2⟩) wi hty hn hf (g := mkF k.m pc ls.toArray (v :: .ref a :: st)) rfl rfl (K.dec hd)
  exact End.back stp (w h' W' T' _ X' e' (Fr.snoc X' N (by rw [K.hn0]; exact ha)))
theorem WP.new (K : Ok k l Z n0 rm bytes maxL y ret Q) {i n : Nat} {C : String} (pc' cells' slots' : Nat) (h1 : (Jvm.Cond.classLink y.cls i C).before a0 Z = true) (h2 : (Jvm.Cond.instantiable C n).before a0 Z = true) (h3 : (Jvm.Cond.initialized C).before a0 Z = true) (hd : decode bytes pc = .ok (.new i, 3)) (hp : pc + 3 = pc')
    (hc : cells + 1 = cells') (hs : slots + n = slots') (hc' : cells' ≤ rm.cells) (hs' : slots' ≤ rm.slots)
    (w : ∀ h' a, a = h.size → Ext h h' → Exa Z h' a C → (∀ {O nm d : String} {ty : FieldType}, Laid Z a0 C O nm d → parseFieldDescriptor d = some ty → Fld Z h' a O nm d (defaultValue ty)) → WP k h' cells' slots' pc' ls (.ref a :: st)) : WP k h cells slots pc ls st := by
  subst hp hc hs
  intro T locs X e N
  obtain ⟨T', h', X', e', E', A', D', -, stp⟩ := newO X K.hx K.hZ K.hown h1 h2 h3 e (g := mkF k.m pc ls.toArray st) rfl (K.dec hd) (by rw [K.hR]; exact hc') (by rw [K.hR]; exact hs')
  exact End.back stp (w h' _ rfl E' A' D' T' locs X' e' N)
/-- Object.<init> -/
theorem WP.initO (K : Ok k l Z n0 rm bytes maxL y ret Q) {i : Nat} (pc' W : Nat) (h1 : (Jvm.Cond.methodLink y.cls i Lib.objectInit).before a0 Z = true) (h2 : (Jvm.Cond.instanceMethod Lib.objectInit).before a0 Z = true) (h3 : (Jvm.Cond.code Lib.objectInit ⟨#[0xb1]⟩ 1 none).before a0 Z = true) (hd : decode bytes pc = .ok (.invokespecial i, 3)) (hp : pc + 3 = pc')
    (hsz : ls.length = maxL) (hf : 1 ≤ rm.frames) (hW : (st.map fun v => v.category).sum ≤ W) (hl : W + 12 ≤ rm.locals) (w : WP k h cells slots pc' ls st) : WP k h cells slots pc ls (.ref a :: st) := by
  subst hp
  intro T locs X e N
  obtain ⟨T', X', e', stp⟩ := RoadKit.initO X K.hx K.hZ K.hown h1 h2 h3 e (g := mkF k.m pc ls.toArray (.ref a :: st)) rfl (by rw [K.hml]; simpa using hsz) rfl (K.dec hd) (by rw [K.hR]; exact hf) (W := W) (by show 2 * 0 + _ ≤ _; omega) (by rw [K.hR]; exact hl)
  exact End.back stp (w T' locs X' e' N)
/-! arrays -/
def ArV (Z : State) (h : Heap) (a : Addr) (ty : FieldType) (vs : List Value) : Prop := ∃ c : Cell, Arr Z h a c ty ∧ c.slots.toList = vs ∧ vs.length < 2 ^ 31 ∧ ∀ v ∈ vs, fits ty v = true
def ArI (Z : State) (h : Heap) (a : Addr) (xs : List Int32) : Prop := ArV Z h a .int (xs.map Value.int)
def ArJ (Z : State) (h : Heap) (a : Addr) (xs : List Int64) : Prop := ArV Z h a .long (xs.map Value.long)
def ArB (Z : State) (h : Heap) (a : Addr) (xs : List Int8) : Prop := ArV Z h a .byte (xs.map fun x => Value.int x.toInt32)
variable {ty : FieldType} {vs : List Value}
theorem ArV.lt (A : ArV Z h a ty vs) : a < h.size := by obtain ⟨c, A, -⟩ := A; exact A.lt
theorem ArV.keep {ws : List Addr} (A : ArV Z h a ty vs) (K : Keep h h' ws) (q : a ∉ ws) : ArV Z h' a ty vs := by
  obtain ⟨c, A, r⟩ := A
  exact ⟨c, ⟨K.2.1 a c A.1 q, A.2⟩, r⟩
theorem ArV.ext (A : ArV Z h a ty vs) (E : Ext h h') : ArV Z h' a ty vs := by
  obtain ⟨c, A, r⟩ := A
  exact ⟨c, A.ext E, r⟩
theorem ArV.set {i : Nat} {v : Value} (A : ArV Z h a ty vs) (W : Wr h h' a i v) (hf : fits ty v = true) : ArV Z h' a ty (vs.set i v) := by
  obtain ⟨c, A, q1, q2, q3⟩ := A
  refine ⟨c.setSlot i v, A.same W, ?_, by simpa using q2, fun u hu => ?_⟩
  · simp [Cell.setSlot, q1]
  · rcases List.mem_or_eq_of_mem_set hu with z | rfl
    · exact q3 u z
    · exact hf
theorem ArV.other {i : Nat} {v : Value} (A : ArV Z h a ty vs) (W : Wr h h' b i v) (q : a ≠ b) : ArV Z h' a ty vs := by
  obtain ⟨c, A, r⟩ := A
  exact ⟨c, A.other W q, r⟩
theorem ArV.new {cA : ClassId} {n : Int32} {m : Nat} (A : Arr Z h a (newA cA ty n) ty) (hn : n.toInt = (m : Nat)) (hf : fits ty (defaultValue ty) = true) : ArV Z h a ty (List.replicate m (defaultValue ty)) := by
  have e : n.toNatClampNeg = m := by simp only [Int32.toNatClampNeg]; omega
  refine ⟨_, A, ?_, ?_, fun v hv => ?_⟩
  · simp [newA, e]
  · have := n.toInt_lt; simp; omega
  · rw [List.eq_of_mem_replicate hv]; exact hf
theorem idx_ok {j : Int32} {i n : Nat} (hj : j.toInt = (i : Nat)) (hi : i < n) : ¬ (j < 0 ∨ n ≤ j.toNatClampNeg) ∧ j.toNatClampNeg = i := by
  have e : j.toNatClampNeg = i := by simp only [Int32.toNatClampNeg]; omega
  refine ⟨?_, e⟩
  rw [e, Int32.lt_iff_toInt_lt, show (0 : Int32).toInt = 0 from rfl]; omega
theorem size_eq {z : Int32} {n : Nat} (hz : z.toInt = (n : Nat)) : n.toInt32 = z := by
  have e : n = z.toNatClampNeg := by simp only [Int32.toNatClampNeg]; omega
  have := (back32 (n := z) (by rw [Int32.lt_iff_toInt_lt, show (0 : Int32).toInt = 0 from rfl]; omega)).1
  rw [← e] at this; exact this
theorem ArV.parts {i : Nat} {v : Value} (A : ArV Z h a ty vs) (hv : vs[i]? = some v) : ∃ c : Cell, Arr Z h a c ty ∧ i < c.slots.size ∧ c.slots[i]? = some v := by
  obtain ⟨c, A, q1, -⟩ := A
  have : i < vs.length := (List.getElem?_eq_some_iff.mp hv).1
  refine ⟨c, A, ?_, ?_⟩
  · rw [← q1] at this; simpa using this
  · rw [← q1] at hv; simpa using hv
theorem WP.arraylength (K : Ok k l Z n0 rm bytes maxL y ret Q) (z : Int32) (pc' : Nat) (A : ArV Z h a ty vs) (hz : z.toInt = (vs.length : Nat)) (hd : decode bytes pc = .ok (.arraylength, 1)) (hp : pc + 1 = pc') (w : WP k h cells slots pc' ls (.int z :: st)) : WP k h cells slots pc ls (.ref a :: st) := by
  subst hp
  intro T locs X e N
  obtain ⟨c, A, q1, -⟩ := A
  have es : c.slots.size.toInt32 = z := size_eq (by rw [hz, ← q1]; simp)
  refine End.back (fun t q => ?_) (w T locs X e N)
  exact Stand.arraylength X K.hx (cell := c) (by rw [e]; exact A.1) (State.isArrayOf_alike K.hZ.alike A.2.1) (g := mkF k.m pc ls.toArray (.ref a :: st)) rfl rfl (K.dec hd) _ (by rw [es]; exact q)
theorem WP.iaload (K : Ok k l Z n0 rm bytes maxL y ret Q) {xs : List Int32} {j x : Int32} (pc' i : Nat) (A : ArI Z h a xs) (hj : j.toInt = (i : Nat)) (hx : xs[i]? = some x) (hd : decode bytes pc = .ok (.iaload, 1)) (hp : pc + 1 = pc') (w : WP k h cells slots pc' ls (.int x :: st)) : WP k h cells slots pc ls (.int j :: .ref a :: st) := by
  subst hp
  intro T locs X e N
  obtain ⟨c, A, q1, q2⟩ := ArV.parts A (i := i) (v := .int x) (by simp [hx])
  obtain ⟨r1, r2⟩ := idx_ok hj q1
  refine End.back (fun t q => ?_) (w T locs X e N)
  exact Stand.iaload X K.hx (j := j) (v := .int x) (by rw [e]; exact A.1) (State.isArrayOf_alike K.hZ.alike A.2.1) A.2.2 r1 (by rw [r2]; exact q2) (g := mkF k.m pc ls.toArray (.int j :: .ref a :: st)) rfl rfl (K.dec hd) _ q
theorem WP.laload (K : Ok k l Z n0 rm bytes maxL y ret Q) {xs : List Int64} {j : Int32} {x : Int64} (pc' i : Nat) (A : ArJ Z h a xs) (hj : j.toInt = (i : Nat)) (hx : xs[i]? = some x) (hd : decode bytes pc = .ok (.laload, 1)) (hp : pc + 1 = pc') (w : WP k h cells slots pc' ls (.long x :: st)) : WP k h cells slots pc ls (.int j :: .ref a :: st) := by
  subst hp
  intro T locs X e N
  obtain ⟨c, A, q1, q2⟩ := ArV.parts A (i := i) (v := .long x) (by simp [hx])
  obtain ⟨r1, r2⟩ := idx_ok hj q1
  refine End.back (fun t q => ?_) (w T locs X e N)
  exact Stand.laload X K.hx (j := j) (v := .long x) (by rw [e]; exact A.1) (State.isArrayOf_alike K.hZ.alike A.2.1) A.2.2 r1 (by rw [r2]; exact q2) (g := mkF k.m pc ls.toArray (.int j :: .ref a :: st)) rfl rfl (K.dec hd) _ q
theorem WP.baload (K : Ok k l Z n0 rm bytes maxL y ret Q) {xs : List Int8} {j : Int32} {x : Int8} (pc' i : Nat) (A : ArB Z h a xs) (hj : j.toInt = (i : Nat)) (hx : xs[i]? = some x) (hd : decode bytes pc = .ok (.baload, 1)) (hp : pc + 1 = pc') (w : WP k h cells slots pc' ls (.int x.toInt32 :: st)) : WP k h cells slots pc ls (.int j :: .ref a :: st) := by
  subst hp
  intro T locs X e N
  obtain ⟨c, A, q1, q2⟩ := ArV.parts A (i := i) (v := .int x.toInt32) (by simp [hx])
  obtain ⟨r1, r2⟩ := idx_ok hj q1
  refine End.back (fun t q => ?_) (w T locs X e N)
  exact Stand.baloadBytes X K.hx (j := j) (v := .int x.toInt32) (by rw [e]; exact A.1) (State.isArrayOf_alike K.hZ.alike A.2.1) A.2.2 r1 (by rw [r2]; exact q2) (g := mkF k.m pc ls.toArray (.int j :: .ref a :: st)) rfl rfl (K.dec hd) _ q
theorem WP.aaload (K : Ok k l Z n0 rm bytes maxL y ret Q) {j : Int32} {x : Value} (pc' i : Nat) (A : ArV Z h a ty vs) (hty : ty.isReference = true) (hj : j.toInt = (i : Nat)) (hx : vs[i]? = some x) (hd : decode bytes pc = .ok (.aaload, 1)) (hp : pc + 1 = pc') (w : WP k h cells slots pc' ls (x :: st)) : WP k h cells slots pc ls (.int j :: .ref a :: st) := by
  subst hp
  intro T locs X e N
  obtain ⟨c, A, q1, q2⟩ := ArV.parts A (i := i) hx
  obtain ⟨r1, r2⟩ := idx_ok hj q1
  refine End.back (fun t q => ?_) (w T locs X e N)
  exact Stand.aaload X K.hx (j := j) (v := x) (by rw [e]; exact A.1) (State.isArrayOf_alike K.hZ.alike A.2.1) hty A.2.2 r1 (by rw [r2]; exact q2) (g := mkF k.m pc ls.toArray (.int j :: .ref a :: st)) rfl rfl (K.dec hd) _ q
theorem WP.iastore (K : Ok k l Z n0 rm bytes maxL y ret Q) {xs : List Int32} {j x : Int32} (pc' i : Nat) (A : ArI Z h a xs) (hj : j.toInt = (i : Nat)) (hi : i < xs.length) (hd : decode bytes pc = .ok (.iastore, 1)) (hp : pc + 1 = pc') (ha : n0 ≤ a)
    (w : ∀ h', Keep h h' [a] → ArI Z h' a (xs.set i x) → WP k h' cells slots pc' ls st) : WP k h cells slots pc ls (.int x :: .int j :: .ref a :: st) := by
  subst hp
  intro T locs X e N
  have A0 := A
  obtain ⟨c, A', q1, -⟩ := A
  obtain ⟨r1, r2⟩ := idx_ok hj (show i < c.slots.size by have := congrArg List.length q1; simp at this; omega)
  obtain ⟨T', h', X', e', W', stp⟩ := stI X K.hx K.hZ e A' r1 (x := x) (g := mkF k.m pc ls.toArray (.int x :: .int j :: .ref a :: st)) rfl rfl (K.dec hd)
  rw [r2] at W'
  have A2 := ArV.set A0 W' rfl
  rw [← List.map_set] at A2
  exact End.back stp (w h' (Keep.of_wr W') A2 T' _ X' e' (Fr.snoc X' N (by rw [K.hn0]; exact ha)))
theorem WP.lastore (K : Ok k l Z n0 rm bytes maxL y ret Q) {xs : List Int64} {j : Int32} {x : Int64} (pc' i : Nat) (A : ArJ Z h a xs) (hj : j.toInt = (i : Nat)) (hi : i < xs.length) (hd : decode bytes pc = .ok (.lastore, 1)) (hp : pc + 1 = pc') (ha : n0 ≤ a)
    (w : ∀ h', Keep h h' [a] → ArJ Z h' a (xs.set i x) → WP k h' cells slots pc' ls st) : WP k h cells slots pc ls (.long x :: .int j :: .ref a :: st) := by
  subst hp
  intro T locs X e N
  have A0 := A
  obtain ⟨c, A', q1, -⟩ := A
  obtain ⟨r1, r2⟩ := idx_ok hj (show i < c.slots.size by have := congrArg List.length q1; simp at this; omega)
  obtain ⟨T', h', X', e', W', stp⟩ := stJ X K.hx K.hZ e A' r1 (x := x) (g := mkF k.m pc ls.toArray (.long x :: .int j :: .ref a :: st)) rfl rfl (K.dec hd)
  rw [r2] at W'
  have A2 := ArV.set A0 W' rfl
  rw [← List.map_set] at A2
  exact End.back stp (w h' (Keep.of_wr W') A2 T' _ X' e' (Fr.snoc X' N (by rw [K.hn0]; exact ha)))
theorem WP.bastore (K : Ok k l Z n0 rm bytes maxL y ret Q) {xs : List Int8} {j x : Int32} (pc' i : Nat) (A : ArB Z h a xs) (hj : j.toInt = (i : Nat)) (hi : i < xs.length) (hd : decode bytes pc = .ok (.bastore, 1)) (hp : pc + 1 = pc') (ha : n0 ≤ a)
    (w : ∀ h', Keep h h' [a] → ArB Z h' a (xs.set i x.toInt8) → WP k h' cells slots pc' ls st) : WP k h cells slots pc ls (.int x :: .int j :: .ref a :: st) := by
  subst hp
  intro T locs X e N
  have A0 := A
  obtain ⟨c, A', q1, -⟩ := A
  obtain ⟨r1, r2⟩ := idx_ok hj (show i < c.slots.size by have := congrArg List.length q1; simp at this; omega)
  obtain ⟨T', h', X', e', W', stp⟩ := stB X K.hx K.hZ e A' r1 (x := x) (g := mkF k.m pc ls.toArray (.int x :: .int j :: .ref a :: st)) rfl rfl (K.dec hd)
  rw [r2] at W'
  have A2 : ArB Z h' a (xs.set i x.toInt8) := by
    have := ArV.set A0 W' (fits_nar_byte x)
    rw [show Value.int (nar .byte x) = (fun z : Int8 => Value.int z.toInt32) x.toInt8 from rfl, ← List.map_set] at this
    exact this
  exact End.back stp (w h' (Keep.of_wr W') A2 T' _ X' e' (Fr.snoc X' N (by rw [K.hn0]; exact ha)))
theorem WP.newarray (K : Ok k l Z n0 rm bytes maxL y ret Q) {aty : ArrayType} {n : Int32} (pc' m cap cells' slots' : Nat) (hw : (Jvm.Cond.arrayClass (newarray.typeOf aty)).before a0 Z = true) (hd : decode bytes pc = .ok (.newarray aty, 2)) (hp : pc + 2 = pc') (hn : n.toInt = (m : Nat)) (hcap : m ≤ cap) (hb : cap * 8 ≤ 536870912)
    (hc : cells + 1 = cells') (hs : slots + cap = slots') (hc' : cells' ≤ rm.cells) (hs' : slots' ≤ rm.slots)
    (w : ∀ h' a, a = h.size → Ext h h' → ArV Z h' a (newarray.typeOf aty) (List.replicate m (defaultValue (newarray.typeOf aty))) → WP k h' cells' slots' pc' ls (.ref a :: st)) : WP k h cells slots pc ls (.int n :: st) := by
  subst hp hc hs
  intro T locs X e N
  have hn' : ¬ n < 0 := by rw [Int32.lt_iff_toInt_lt, show (0 : Int32).toInt = 0 from rfl]; omega
  obtain ⟨T', h', cA, X', e', E', A', stp⟩ := newP X K.hx K.hZ hw e (g := mkF k.m pc ls.toArray (.int n :: st)) rfl (K.dec hd) rfl hn' (cap := cap) (by simp only [Int32.toNatClampNeg]; omega) hb (by rw [K.hR]; exact hc') (by rw [K.hR]; exact hs')
  exact End.back stp (w h' _ rfl E' (ArV.new A' hn (by cases aty <;> rfl)) T' locs X' e' N)
theorem WP.newarrayE (K : Ok k l Z n0 rm bytes maxL y ret Q) {aty : ArrayType} {n : Int32} {ad : String} (pc' m cap cells' slots' : Nat) (hw : (Jvm.Cond.arrayClass (newarray.typeOf aty)).before a0 Z = true) (hd : decode bytes pc = .ok (.newarray aty, 2)) (hp : pc + 2 = pc') (hn : n.toInt = (m : Nat)) (hcap : m ≤ cap) (hb : cap * 8 ≤ 536870912)
    (hc : cells + 1 = cells') (hs : slots + cap = slots') (hc' : cells' ≤ rm.cells) (hs' : slots' ≤ rm.slots) (had : "[" ++ (newarray.typeOf aty).toString = ad)
    (w : ∀ h' a, a = h.size → Ext h h' → ArV Z h' a (newarray.typeOf aty) (List.replicate m (defaultValue (newarray.typeOf aty))) → Exa Z h' a ad → WP k h' cells' slots' pc' ls (.ref a :: st)) : WP k h cells slots pc ls (.int n :: st) := by
  subst hp hc hs
  intro T locs X e N
  have hn' : ¬ n < 0 := by rw [Int32.lt_iff_toInt_lt, show (0 : Int32).toInt = 0 from rfl]; omega
  obtain ⟨T', h', cA, X', e', E', A', XA, stp⟩ := newPE X K.hx K.hZ hw e (g := mkF k.m pc ls.toArray (.int n :: st)) rfl (K.dec hd) rfl hn' (cap := cap) (by simp only [Int32.toNatClampNeg]; omega) hb (by rw [K.hR]; exact hc') (by rw [K.hR]; exact hs') had
  exact End.back stp (w h' _ rfl E' (ArV.new A' hn (by cases aty <;> rfl)) XA T' locs X' e' N)
/-! arrays of references -/
def ArR (Z : State) (h : Heap) (a : Addr) (ty : FieldType) (C : String) (vs : List Value) : Prop := ∃ c : Cell, Arr Z h a c ty ∧ c.slots.toList = vs ∧ vs.length < 2 ^ 31 ∧ (∀ v ∈ vs, fits ty v = true) ∧ ∃ (kk : Class) (comp : ClassId) (t : FieldType), Z.vm.classes[c.cls]? = some kk ∧ kk.kind = .array comp t ∧ Z.vm.findClass C = some comp
variable {C : String}
theorem ArR.v (A : ArR Z h a ty C vs) : ArV Z h a ty vs := by obtain ⟨c, q1, q2, q3, q4, -⟩ := A; exact ⟨c, q1, q2, q3, q4⟩
theorem ArR.lt (A : ArR Z h a ty C vs) : a < h.size := A.v.lt
theorem ArR.len (A : ArR Z h a ty C vs) : vs.length < 2 ^ 31 := by obtain ⟨c, -, -, q, -⟩ := A; exact q
theorem ArR.keep {ws : List Addr} (A : ArR Z h a ty C vs) (K : Keep h h' ws) (q : a ∉ ws) : ArR Z h' a ty C vs := by
  obtain ⟨c, A, r⟩ := A
  exact ⟨c, ⟨K.2.1 a c A.1 q, A.2⟩, r⟩
theorem ArR.ext (A : ArR Z h a ty C vs) (E : Ext h h') : ArR Z h' a ty C vs := by
  obtain ⟨c, A, r⟩ := A
  exact ⟨c, A.ext E, r⟩
theorem ArR.other {i : Nat} {v : Value} (A : ArR Z h a ty C vs) (W : Wr h h' b i v) (q : a ≠ b) : ArR Z h' a ty C vs := by
  obtain ⟨c, A, r⟩ := A
  exact ⟨c, A.other W q, r⟩
theorem ArR.sto {x : Addr} (A : ArR Z h a ty C vs) (I : Ins Z h x C true) : Sto Z h a (.ref x) := by
  obtain ⟨c, A, -, -, -, kk, comp, t, o1, o2, o3⟩ := A
  obtain ⟨cv, cT, i1, i2, i3⟩ := I
  cases o3.symm.trans i2
  simp only [Bool.and_eq_true, Bool.not_eq_true'] at i3
  obtain ⟨kc, q⟩ := Vm.classAt_of_findClass o3
  obtain ⟨kv, q2⟩ := Vm.classAt_of_assignable i3.2 ⟨kc, q⟩
  exact Or.inr ⟨c, cv, kk, kv, kc, _, _, x, A.1, o1, o2, q, rfl, i1, i3.1, q2, i3.2⟩
theorem WP.aastore (K : Ok k l Z n0 rm bytes maxL y ret Q) {j : Int32} {v : Value} (pc' i : Nat) (A : ArR Z h a ty C vs) (hty : ty.isReference = true) (F : Sto Z h a v) (hf : fits ty v = true) (hj : j.toInt = (i : Nat)) (hi : i < vs.length) (hd : decode bytes pc = .ok (.aastore, 1)) (hp : pc + 1 = pc') (ha : n0 ≤ a)
    (w : ∀ h', Keep h h' [a] → ArR Z h' a ty C (vs.set i v) → WP k h' cells slots pc' ls st) : WP k h cells slots pc ls (v :: .int j :: .ref a :: st) := by
  subst hp
  intro T locs X e N
  obtain ⟨c, A', q1, q2, q3, q4⟩ := A
  obtain ⟨r1, r2⟩ := idx_ok hj (show i < c.slots.size by have := congrArg List.length q1; simp at this; omega)
  obtain ⟨T', h', X', e', W', stp⟩ := stR X K.hx K.hZ e A' r1 hty F (g := mkF k.m pc ls.toArray (v :: .int j :: .ref a :: st)) rfl rfl (K.dec hd)
  rw [r2] at W'
  have A2 : ArR Z h' a ty C (vs.set i v) := by
    refine ⟨c.setSlot i v, A'.same W', by simp [Cell.setSlot, q1], by simpa using q2, fun u hu => ?_, q4⟩
    rcases List.mem_or_eq_of_mem_set hu with z | rfl
    · exact q3 u z
    · exact hf
  exact End.back stp (w h' (Keep.of_wr W') A2 T' _ X' e' (Fr.snoc X' N (by rw [K.hn0]; exact ha)))
theorem new_ref {cA : ClassId} {n : Int32} {m : Nat} (A : Arr Z h a (newA cA ty n) ty) (hr : ty.isReference = true) (hn : n.toInt = (m : Nat)) (O : ∃ (kk : Class) (comp : ClassId) (t : FieldType), Z.vm.classes[cA]? = some kk ∧ kk.kind = .array comp t ∧ Z.vm.findClass C = some comp) : ArR Z h a ty C (List.replicate m .null) := by
  have e : n.toNatClampNeg = m := by simp only [Int32.toNatClampNeg]; omega
  have d : defaultValue ty = .null := by cases ty <;> simp [FieldType.isReference] at hr <;> rfl
  refine ⟨_, A, ?_, ?_, fun v hv => ?_, O⟩
  · simp [newA, e, d]
  · have := n.toInt_lt; simp; omega
  · rw [List.eq_of_mem_replicate hv]; cases ty <;> simp [FieldType.isReference] at hr <;> rfl
theorem WP.anewarrayA (K : Ok k l Z n0 rm bytes maxL y ret Q) {i : Nat} {et : FieldType} {n : Int32} (pc' m cap cells' slots' : Nat) (hC : (FieldType.array et).toString = C) (h1 : (Jvm.Cond.classLink y.cls i C).before a0 Z = true) (h2 : (Jvm.Cond.arrayOver (.array et)).before a0 Z = true) (hd : decode bytes pc = .ok (.anewarray i, 3)) (hp : pc + 3 = pc') (hn : n.toInt = (m : Nat)) (hcap : m ≤ cap) (hb : cap * 8 ≤ 536870912)
    (hc : cells + 1 = cells') (hs : slots + cap = slots') (hc' : cells' ≤ rm.cells) (hs' : slots' ≤ rm.slots)
    (w : ∀ h' a, a = h.size → Ext h h' → ArR Z h' a (.array et) C (List.replicate m .null) → WP k h' cells' slots' pc' ls (.ref a :: st)) : WP k h cells slots pc ls (.int n :: st) := by
  subst hp hc hs
  intro T locs X e N
  have hn' : ¬ n < 0 := by rw [Int32.lt_iff_toInt_lt, show (0 : Int32).toInt = 0 from rfl]; omega
  obtain ⟨T', h', cA, X', e', E', A', -, O, stp⟩ := newRA X K.hx K.hZ K.hown hC h1 h2 e (g := mkF k.m pc ls.toArray (.int n :: st)) rfl (K.dec hd) rfl hn' (cap := cap) (by simp only [Int32.toNatClampNeg]; omega) hb (by rw [K.hR]; exact hc') (by rw [K.hR]; exact hs') (ad := "[" ++ C) rfl
  obtain ⟨kk, comp, o1, o2, o3⟩ := O
  exact End.back stp (w h' _ rfl E' (new_ref A' rfl hn ⟨kk, comp, _, o1, o2, o3⟩) T' locs X' e' N)
theorem WP.anewarrayO (K : Ok k l Z n0 rm bytes maxL y ret Q) {i : Nat} {n : Int32} (pc' m cap cells' slots' : Nat) (h1 : (Jvm.Cond.classLink y.cls i C).before a0 Z = true) (h2 : (Jvm.Cond.arrayOver (.object C)).before a0 Z = true) (hd : decode bytes pc = .ok (.anewarray i, 3)) (hp : pc + 3 = pc') (hn : n.toInt = (m : Nat)) (hcap : m ≤ cap) (hb : cap * 8 ≤ 536870912)
    (hc : cells + 1 = cells') (hs : slots + cap = slots') (hc' : cells' ≤ rm.cells) (hs' : slots' ≤ rm.slots)
    (w : ∀ h' a, a = h.size → Ext h h' → ArR Z h' a (.object C) C (List.replicate m .null) → WP k h' cells' slots' pc' ls (.ref a :: st)) : WP k h cells slots pc ls (.int n :: st) := by
  subst hp hc hs
  intro T locs X e N
  have hn' : ¬ n < 0 := by rw [Int32.lt_iff_toInt_lt, show (0 : Int32).toInt = 0 from rfl]; omega
  obtain ⟨T', h', cA, X', e', E', A', O, stp⟩ := newR X K.hx K.hZ K.hown h1 h2 e (g := mkF k.m pc ls.toArray (.int n :: st)) rfl (K.dec hd) rfl hn' (cap := cap) (by simp only [Int32.toNatClampNeg]; omega) hb (by rw [K.hR]; exact hc') (by rw [K.hR]; exact hs')
  obtain ⟨kk, comp, o1, o2, o3⟩ := O
  exact End.back stp (w h' _ rfl E' (new_ref A' rfl hn ⟨kk, comp, _, o1, o2, o3⟩) T' locs X' e' N)
theorem ArI.of_new {m : Nat} (A : ArV Z h a (newarray.typeOf .int) (List.replicate m (defaultValue (newarray.typeOf .int)))) : ArI Z h a (List.replicate m 0) := by
  unfold ArI; rw [List.map_replicate]; exact A
theorem ArJ.of_new {m : Nat} (A : ArV Z h a (newarray.typeOf .long) (List.replicate m (defaultValue (newarray.typeOf .long)))) : ArJ Z h a (List.replicate m 0) := by
  unfold ArJ; rw [List.map_replicate]; exact A
theorem ArB.of_new {m : Nat} (A : ArV Z h a (newarray.typeOf .byte) (List.replicate m (defaultValue (newarray.typeOf .byte)))) : ArB Z h a (List.replicate m 0) := by
  unfold ArB; rw [List.map_replicate]; exact A
theorem ArI.len {xs : List Int32} (A : ArI Z h a xs) : xs.length < 2 ^ 31 := by obtain ⟨c, -, -, q, -⟩ := A; simpa using q
theorem ArJ.len {xs : List Int64} (A : ArJ Z h a xs) : xs.length < 2 ^ 31 := by obtain ⟨c, -, -, q, -⟩ := A; simpa using q
theorem ArB.len {xs : List Int8} (A : ArB Z h a xs) : xs.length < 2 ^ 31 := by obtain ⟨c, -, -, q, -⟩ := A; simpa using q
theorem ArI.lt {xs : List Int32} (A : ArI Z h a xs) : a < h.size := ArV.lt A
theorem ArI.keep {xs : List Int32} {ws : List Addr} (A : ArI Z h a xs) (K : Keep h h' ws) (q : a ∉ ws) : ArI Z h' a xs := ArV.keep A K q
theorem ArI.ext {xs : List Int32} (A : ArI Z h a xs) (E : Ext h h') : ArI Z h' a xs := ArV.ext A E
theorem ArI.other {xs : List Int32} {i : Nat} {v : Value} (A : ArI Z h a xs) (W : Wr h h' b i v) (q : a ≠ b) : ArI Z h' a xs := ArV.other A W q
theorem ArJ.lt {xs : List Int64} (A : ArJ Z h a xs) : a < h.size := ArV.lt A
theorem ArJ.keep {xs : List Int64} {ws : List Addr} (A : ArJ Z h a xs) (K : Keep h h' ws) (q : a ∉ ws) : ArJ Z h' a xs := ArV.keep A K q
theorem ArJ.ext {xs : List Int64} (A : ArJ Z h a xs) (E : Ext h h') : ArJ Z h' a xs := ArV.ext A E
theorem ArJ.other {xs : List Int64} {i : Nat} {v : Value} (A : ArJ Z h a xs) (W : Wr h h' b i v) (q : a ≠ b) : ArJ Z h' a xs := ArV.other A W q
theorem ArB.lt {xs : List Int8} (A : ArB Z h a xs) : a < h.size := ArV.lt A
theorem ArB.keep {xs : List Int8} {ws : List Addr} (A : ArB Z h a xs) (K : Keep h h' ws) (q : a ∉ ws) : ArB Z h' a xs := ArV.keep A K q
theorem ArB.ext {xs : List Int8} (A : ArB Z h a xs) (E : Ext h h') : ArB Z h' a xs := ArV.ext A E
theorem ArB.other {xs : List Int8} {i : Nat} {v : Value} (A : ArB Z h a xs) (W : Wr h h' b i v) (q : a ≠ b) : ArB Z h' a xs := ArV.other A W q
/-! calls by contract -/
theorem WP.callS (K : Ok k l Z n0 rm bytes maxL y ret Q) {i maxL' : Nat} {y' : MethodName} {bytes' : ByteArray} {ret' : Option FieldType} {rm' : Room} {as : Array Value} {Q' : Option Value → Heap → Prop} {ps : List FieldType} {rt : Option FieldType} (pc' cells' slots' W : Nat) (argsL rest : List Value)
    (h1 : (Jvm.Cond.methodLink y.cls i y').before a0 Z = true) (h2 : (Jvm.Cond.static y').before a0 Z = true) (h3 : (Jvm.Cond.initialized y'.cls).before a0 Z = true) (h4 : (Jvm.Cond.code y' bytes' maxL' ret').before a0 Z = true)
    (hy : y'.cls ≠ "java/lang/invoke/MethodHandle" ∧ y'.cls ≠ "java/lang/invoke/VarHandle") (hpd : parseMethodDescriptor y'.desc = some ⟨ps, rt⟩) (hlen : argsL.length = ps.length) (has : argsL.toArray = as) (hst : argsL.reverse ++ rest = st)
    (hf : rm'.frames + 1 ≤ rm.frames) (hl : W + (maxL' + 11) + rm'.locals ≤ rm.locals) (hW : (rest.map fun v => v.category).sum ≤ W) (hsz : ls.length = maxL) (hd : decode bytes pc = .ok (.invokestatic i, 3)) (hp : pc + 3 = pc')
    (hc : cells + rm'.cells = cells') (hs : slots + rm'.slots = slots') (hc' : cells' ≤ rm.cells) (hs' : slots' ≤ rm.slots) (C : Con l Z y' bytes' maxL' ret' rm' n0 as h Q')
    (w : ∀ v h', Q' v h' → WP k h' cells' slots' pc' ls (v.toList ++ rest)) : WP k h cells slots pc ls st := by
  subst hp hc hs hst has
  obtain ⟨hx, hZ, rfl, hby, hml, hown, hret, hlk, hnm, rfl, rfl, rfl, rfl, hfin⟩ := K
  intro T locs X e N
  obtain ⟨v, vm1, ⟨T', L', k', n'⟩, -, X', ⟨Lc, ⟨hQ, hN⟩, l', y'', z'⟩, stp⟩ := Jvm.LawKit.callS X hx hown (mvT hZ h1) (mvT hZ h2) (mvT hZ h3) (mvT hZ h4) hy (backOf (W := W) (Q := fun v h L => Q' v h ∧ Fr k.n0 L) (C []) hZ h4 h3 hf hl) (g := mkF k.m pc ls.toArray (argsL.reverse ++ rest)) rfl (by rw [hml]; simpa using hsz) (lenOf hpd hlen) rfl (by show 2 * 0 + _ ≤ _; omega) (hb hby hd) (fun _ _ => ⟨rfl, e, hc', hs'⟩)
  dsimp only [Pt.U, Pt.locs, Pt.cells, Pt.slots] at X' l' y'' z' stp hQ
  subst l' y'' z'
  exact End.back stp (w v _ hQ T' _ X' rfl (Fr.app N hN))
theorem WP.callI (K : Ok k l Z n0 rm bytes maxL y ret Q) {i maxL' : Nat} {y' : MethodName} {bytes' : ByteArray} {rm' : Room} {as : Array Value} {Q' : Option Value → Heap → Prop} {ps : List FieldType} {rt : Option FieldType} (pc' cells' slots' W : Nat) (argsL rest : List Value)
    (h1 : (Jvm.Cond.methodLink y.cls i y').before a0 Z = true) (h2 : (Jvm.Cond.instanceMethod y').before a0 Z = true) (h3 : (Jvm.Cond.initialized y'.cls).before a0 Z = true) (h4 : (Jvm.Cond.code y' bytes' maxL' none).before a0 Z = true) (hy1 : y'.name = "<init>")
    (hy : y'.cls ≠ "java/lang/invoke/MethodHandle" ∧ y'.cls ≠ "java/lang/invoke/VarHandle") (hpd : parseMethodDescriptor y'.desc = some ⟨ps, rt⟩) (hlen : argsL.length = ps.length) (has : (.ref a :: argsL).toArray = as) (hst : argsL.reverse ++ .ref a :: rest = st)
    (hf : rm'.frames + 1 ≤ rm.frames) (hl : W + (maxL' + 11) + rm'.locals ≤ rm.locals) (hW : (rest.map fun v => v.category).sum ≤ W) (hsz : ls.length = maxL) (hd : decode bytes pc = .ok (.invokespecial i, 3)) (hp : pc + 3 = pc')
    (hc : cells + rm'.cells = cells') (hs : slots + rm'.slots = slots') (hc' : cells' ≤ rm.cells) (hs' : slots' ≤ rm.slots) (C : Con l Z y' bytes' maxL' none rm' n0 as h Q')
    (w : ∀ v h', Q' v h' → WP k h' cells' slots' pc' ls (v.toList ++ rest)) : WP k h cells slots pc ls st := by
  subst hp hc hs hst has
  obtain ⟨hx, hZ, rfl, hby, hml, hown, hret, hlk, hnm, rfl, rfl, rfl, rfl, hfin⟩ := K
  intro T locs X e N
  obtain ⟨v, vm1, ⟨T', L', k', n'⟩, -, X', ⟨Lc, ⟨hQ, hN⟩, l', y'', z'⟩, stp⟩ := Stand.specialBack X hx hy1 hown (mvT hZ h1) (mvT hZ h2) (mvT hZ h4) hy (backOf (W := W) (Q := fun v h L => Q' v h ∧ Fr k.n0 L) (C []) hZ h4 h3 hf hl) (g := mkF k.m pc ls.toArray (argsL.reverse ++ .ref a :: rest)) rfl (by rw [hml]; simpa using hsz) (Steps.refl _) (a := a) (argsL := argsL) (rest := rest) (lenOf hpd hlen) rfl (by show 2 * 0 + _ ≤ _; omega) (hb hby hd) (fun _ _ => ⟨rfl, e, hc', hs'⟩)
  dsimp only [Pt.U, Pt.locs, Pt.cells, Pt.slots] at X' l' y'' z' stp hQ
  subst l' y'' z'
  exact End.back (fun t q => stp.trans q) (w v _ hQ T' _ X' rfl (Fr.app N hN))
theorem WP.callV (K : Ok k l Z n0 rm bytes maxL y ret Q) {i maxL' : Nat} {y' z : MethodName} {C : String} {bytes' : ByteArray} {ret' : Option FieldType} {rm' : Room} {as : Array Value} {Q' : Option Value → Heap → Prop} {ps : List FieldType} {rt : Option FieldType} (pc' cells' slots' W : Nat) (argsL rest : List Value)
    (h1 : (Jvm.Cond.methodLink y.cls i y').before a0 Z = true) (h2 : (Jvm.Cond.declares y').before a0 Z = true) (hzy : z = y') (h5 : (Jvm.Cond.selects C y' z).before a0 Z = true) (h6 : (Jvm.Cond.instanceMethod z).before a0 Z = true) (h3 : (Jvm.Cond.initialized z.cls).before a0 Z = true) (h4 : (Jvm.Cond.code z bytes' maxL' ret').before a0 Z = true)
    (hy : y'.cls ≠ "java/lang/invoke/MethodHandle" ∧ y'.cls ≠ "java/lang/invoke/VarHandle") (hpd : parseMethodDescriptor y'.desc = some ⟨ps, rt⟩) (hlen : argsL.length = ps.length) (has : (.ref a :: argsL).toArray = as) (hst : argsL.reverse ++ .ref a :: rest = st)
    (hf : rm'.frames + 1 ≤ rm.frames) (hl : W + (maxL' + 11) + rm'.locals ≤ rm.locals) (hW : (rest.map fun v => v.category).sum ≤ W) (hsz : ls.length = maxL) (hd : decode bytes pc = .ok (.invokevirtual i, 3)) (hp : pc + 3 = pc')
    (hc : cells + rm'.cells = cells') (hs : slots + rm'.slots = slots') (hc' : cells' ≤ rm.cells) (hs' : slots' ≤ rm.slots) (E : Exa Z h a C) (Cn : Con l Z z bytes' maxL' ret' rm' n0 as h Q')
    (w : ∀ v h', Q' v h' → WP k h' cells' slots' pc' ls (v.toList ++ rest)) : WP k h cells slots pc ls st := by
  subst hzy hp hc hs hst has
  obtain ⟨hx, hZ, rfl, hby, hml, hown, hret, hlk, hnm, rfl, rfl, rfl, rfl, hfin⟩ := K
  intro T locs X e N
  obtain ⟨cq, kq, qa, qb, qc⟩ := isOf hZ e E
  obtain ⟨v, vm1, ⟨T', L', k', n'⟩, -, X', ⟨Lc, ⟨hQ, hN⟩, l', y'', z'⟩, stp⟩ := Stand.virtualBack X hx hown (mvT hZ h1) (mvT hZ h2) (notFace_of_selects (args := #[]) (mvT hZ h5)) (mvT hZ h5) (mvT hZ h6) hy (backOf (W := W) (Q := fun v h L => Q' v h ∧ Fr k.n0 L) (Cn []) hZ h4 h3 hf hl) qa qc (g := mkF k.m pc ls.toArray (argsL.reverse ++ .ref a :: rest)) rfl (by rw [hml]; simpa using hsz) (Steps.refl _) (argsL := argsL) (rest := rest) (lenOf hpd hlen) rfl (by show 2 * 0 + _ ≤ _; omega) (hb hby hd) (fun _ _ => ⟨rfl, e, hc', hs'⟩)
  dsimp only [Pt.U, Pt.locs, Pt.cells, Pt.slots] at X' l' y'' z' stp hQ
  subst l' y'' z'
  exact End.back (fun t q => stp.trans q) (w v _ hQ T' _ X' rfl (Fr.app N hN))
theorem r1_next {Q' : Value → Heap → Prop} {cells' slots' pc' : Nat} {rest : List Value} (w : ∀ r h', Q' r h' → WP k h' cells' slots' pc' ls (r :: rest)) : ∀ v h', R1 Q' v h' → WP k h' cells' slots' pc' ls (v.toList ++ rest) := fun v h' q => by
  obtain ⟨r, rfl, q⟩ := q; exact w r h' q
theorem r0_next {Q' : Heap → Prop} {cells' slots' pc' : Nat} {rest : List Value} (w : ∀ h', Q' h' → WP k h' cells' slots' pc' ls rest) : ∀ v h', R0 Q' v h' → WP k h' cells' slots' pc' ls (v.toList ++ rest) := fun v h' q => by
  obtain ⟨rfl, q⟩ := q; exact w h' q
end HeapSteps
end Jvm.OwnWP
namespace Jvm.OwnWP
theorem i32_of {n : Nat} (h : n < 2 ^ 31) : ∃ z : Int32, z.toInt = (n : Nat) := ⟨Int32.ofNat n, Int32.toInt_ofNat_of_lt h⟩
theorem i32_rng (x : Int32) : -2147483648 ≤ x.toInt ∧ x.toInt < 2147483648 := ⟨x.le_toInt, x.toInt_lt⟩
theorem i64_rng (x : Int64) : -9223372036854775808 ≤ x.toInt ∧ x.toInt < 9223372036854775808 := ⟨x.le_toInt, x.toInt_lt⟩
theorem i32_add {x y : Int32} (h1 : -2147483648 ≤ x.toInt + y.toInt) (h2 : x.toInt + y.toInt < 2147483648) : (x + y).toInt = x.toInt + y.toInt := Jvm.Free.XT.add32 ⟨by omega, by omega⟩
theorem i32_sub {x y : Int32} (h1 : -2147483648 ≤ x.toInt - y.toInt) (h2 : x.toInt - y.toInt < 2147483648) : (x - y).toInt = x.toInt - y.toInt := Jvm.Free.XT.sub32 ⟨by omega, by omega⟩
theorem i64_add {x y : Int64} (h1 : -9223372036854775808 ≤ x.toInt + y.toInt) (h2 : x.toInt + y.toInt < 9223372036854775808) : (x + y).toInt = x.toInt + y.toInt := Jvm.Free.XT.add64 ⟨by omega, by omega⟩
theorem i64_sub {x y : Int64} (h1 : -9223372036854775808 ≤ x.toInt - y.toInt) (h2 : x.toInt - y.toInt < 9223372036854775808) : (x - y).toInt = x.toInt - y.toInt := Jvm.Free.XT.sub64 ⟨by omega, by omega⟩
theorem inc32 {x : Int32} {n : Nat} (h : x.toInt = (n : Nat)) (hn : n < 2147483647) : (x + (1 : Int32)).toInt = ((n + 1 : Nat) : Int) := by
  have e1 : (1 : Int32).toInt = 1 := rfl
  rw [i32_add (by omega) (by omega)]; omega
theorem i32_eq {x y : Int32} (h : x.toInt = y.toInt) : x = y := Int32.toInt_inj.mp h
theorem i64_eq {x y : Int64} (h : x.toInt = y.toInt) : x = y := Int64.toInt_inj.mp h
theorem ite01 (P : Prop) [Decidable P] : ∃ t : Int, (if P then (1 : Int) else 0) = t ∧ (P → t = 1) ∧ (¬ P → t = 0) := by
  by_cases h : P
  · exact ⟨1, by simp [h], fun _ => rfl, fun q => absurd h q⟩
  · exact ⟨0, by simp [h], fun q => absurd q h, fun _ => rfl⟩
theorem i32_mul {x y : Int32} (h1 : -2147483648 ≤ x.toInt * y.toInt) (h2 : x.toInt * y.toInt < 2147483648) : (x * y).toInt = x.toInt * y.toInt := Jvm.Free.XT.mul32 ⟨by omega, by omega⟩
theorem st1 {ls : List Slot} {i : Nat} {o : Slot} {v : Value} (h : ls[i]? = some o) (ho : Jvm.RoadKit.One o) (hv : v.category = 1) : storeLocals ls.toArray i v = some (ls.set i (.val v)).toArray := by
  rw [Jvm.Free.XS.store1 (o := o) (by simpa using h) ho hv]; simp
theorem ushr1 {x : Int32} (h : 0 ≤ x.toInt) : (Jvm.Free.XT.ushr x 1).toInt = x.toInt / 2 := by
  have := Jvm.RoadKit.c_iushr x 1 1 rfl (by decide)
  have r := i32_rng x
  unfold Jvm.Free.XT.ushr
  rw [this]; omega
def min32 (x y : Int32) : Int32 := if x.toInt ≤ y.toInt then x else y
def max32 (x y : Int32) : Int32 := if x.toInt ≤ y.toInt then y else x
theorem min32_spec (x y : Int32) : (x.toInt ≤ y.toInt → (min32 x y).toInt = x.toInt) ∧ (y.toInt < x.toInt → (min32 x y).toInt = y.toInt) := by
  unfold min32; split <;> constructor <;> intro <;> first | rfl | omega
theorem max32_spec (x y : Int32) : (x.toInt ≤ y.toInt → (max32 x y).toInt = y.toInt) ∧ (y.toInt < x.toInt → (max32 x y).toInt = x.toInt) := by
  unfold max32; split <;> constructor <;> intro <;> first | rfl | omega
def min64 (x y : Int64) : Int64 := if x.toInt ≤ y.toInt then x else y
def max64 (x y : Int64) : Int64 := if x.toInt ≤ y.toInt then y else x
theorem min64_spec (x y : Int64) : (x.toInt ≤ y.toInt → (min64 x y).toInt = x.toInt) ∧ (y.toInt < x.toInt → (min64 x y).toInt = y.toInt) := by
  unfold min64; split <;> constructor <;> intro <;> first | rfl | omega
theorem max64_spec (x y : Int64) : (x.toInt ≤ y.toInt → (max64 x y).toInt = y.toInt) ∧ (y.toInt < x.toInt → (max64 x y).toInt = x.toInt) := by
  unfold max64; split <;> constructor <;> intro <;> first | rfl | omega
end Jvm.OwnWP

namespace Jvm.Pilot.@@N@@
open Jvm Jvm.ClassFile Sem Op Lib Jvm.Free Jvm.Stand Jvm.LawKit Jvm.RoadKit Bundle Jvm.OwnWP Jvm.Pilot.@@N@@.Jvm.D
theorem own_ord {args : Array Value} {s : State} {t : Term} {a : Nat} {z : Int32} {C n d : String} (ev : t.eval args s none [] s = some (.ref a)) (h : (Cond.eq (.field t C n d) (.int z)).value args s none s [] = some true) : s.fieldOf? a C n d = some (.int z) := by
  have e : (Term.field t C n d).eval args s none [] s = s.fieldOf? a C n d := by simp [Term.eval, ev]
  have e2 : (Term.int z).eval args s none [] s = some (.int z) := rfl
  simp only [Cond.value, e, e2] at h
  cases q : s.fieldOf? a C n d with
  | none => simp [q] at h
  | some v => cases v <;> simp [q] at h ⊢ <;> exact h
theorem own_b1_0 : decode prog_56_method_6_code 0 = .ok (.aload_n 0, 1) := by decide +kernel
theorem own_b1_1 : decode prog_56_method_6_code 1 = .ok (.getstatic 3, 3) := by decide +kernel
theorem own_b1_4 : decode prog_56_method_6_code 4 = .ok (.if_acmp .ne 9, 3) := by decide +kernel
theorem own_b1_7 : decode prog_56_method_6_code 7 = .ok (.getstatic 7, 3) := by decide +kernel
theorem own_b1_10 : decode prog_56_method_6_code 10 = .ok (.goto 6, 3) := by decide +kernel
theorem own_b1_13 : decode prog_56_method_6_code 13 = .ok (.getstatic 3, 3) := by decide +kernel
theorem own_b1_16 : decode prog_56_method_6_code 16 = .ok (.areturn, 1) := by decide +kernel
theorem own_pf_b1 : plainFor (⟨"com/example/refline/refline/games/quoridor/Colour", "opposite", "()Lcom/example/refline/refline/games/quoridor/Colour;"⟩ : MethodName) = true := by first | exact plainFor_of_name (by first | (simp [plainName, overriddenIn, x]; done) | decide +kernel) | decide +kernel
set_option maxRecDepth 65536 in
set_option maxHeartbeats 40000000 in
theorem own_opp (l : Launch) (Z : State) (a0 : Array Value) (hw : ∀ d ∈ tables_1, d.before a0 Z = true) (n0 : Nat) (h : Heap) (a b : Nat) (aO aT : Nat) (SO : Sta Z h "com/example/refline/refline/games/quoridor/Colour" "WHITE" "Lcom/example/refline/refline/games/quoridor/Colour;" (.ref aO)) (ST : Sta Z h "com/example/refline/refline/games/quoridor/Colour" "BLACK" "Lcom/example/refline/refline/games/quoridor/Colour;" (.ref aT)) (hb : (a = aO → b = aT) ∧ (a ≠ aO → b = aO)) :
    Con l Z (⟨"com/example/refline/refline/games/quoridor/Colour", "opposite", "()Lcom/example/refline/refline/games/quoridor/Colour;"⟩ : MethodName) prog_56_method_6_code 1 (some (.object "com/example/refline/refline/games/quoridor/Colour")) ({ frames := 0, cells := 0, slots := 0, locals := 0 } : Room) n0 #[(.ref a)] h (R1 fun r h' => r = .ref b ∧ h = h') := by
  refine Con.of (ls := [.val (.ref a)]) own_pf_b1 (fun m => by first | (simp [entryFrame, mkF, argsToLocals, Value.category]; done) | rfl) fun k K => ?_
  refine WP.aloadN K 1 own_b1_0 rfl rfl rfl ?_
  refine WP.getstatic K 4 (hw _ (List.mem_of_getElem? (i := 8) rfl)) Via.refl SO own_b1_1 rfl ?_
  refine WP.acmp_ne K 13 7 own_b1_4 (by decide) rfl rfl rfl (fun c4 => ?_) (fun c4 => ?_)
  · skip
    refine WP.getstatic K 16 (hw _ (List.mem_of_getElem? (i := 8) rfl)) Via.refl SO own_b1_13 rfl ?_
    refine WP.aret K rfl rfl rfl rfl own_b1_16 ?_ (by decide) (by decide)
    exact ⟨_, rfl, congrArg Value.ref (hb.2 fun e => c4 (congrArg Value.ref e)).symm, rfl⟩
  · skip
    refine WP.getstatic K 10 (hw _ (List.mem_of_getElem? (i := 9) rfl)) Via.refl ST own_b1_7 rfl ?_
    refine WP.goto K 16 own_b1_10 (by decide) ?_
    refine WP.aret K rfl rfl rfl rfl own_b1_16 ?_ (by decide) (by decide)
    exact ⟨_, rfl, congrArg Value.ref (hb.1 (Value.ref.inj c4)).symm, rfl⟩
theorem own_pf_law : plainFor x = true := by first | exact plainFor_of_name (by first | (simp [plainName, overriddenIn, x]; done) | decide +kernel) | decide +kernel
theorem own_pd_0 : parseMethodDescriptor "()Lcom/example/refline/refline/games/quoridor/Colour;" = some ⟨[], some (.object "com/example/refline/refline/games/quoridor/Colour")⟩ := by decide +kernel
set_option maxRecDepth 65536 in
set_option maxHeartbeats 40000000 in
theorem own_law (l : Launch) (Z : State) (a0 : Array Value) (hw : ∀ d ∈ tables_1, d.before a0 Z = true) (n0 : Nat) (h : Heap) (p : Int32) (aO aT : Nat) (SO : Sta Z h "com/example/refline/refline/games/quoridor/Colour" "WHITE" "Lcom/example/refline/refline/games/quoridor/Colour;" (.ref aO)) (ST : Sta Z h "com/example/refline/refline/games/quoridor/Colour" "BLACK" "Lcom/example/refline/refline/games/quoridor/Colour;" (.ref aT)) (XO : Exa Z h aO "com/example/refline/refline/games/quoridor/Colour") (XT : Exa Z h aT "com/example/refline/refline/games/quoridor/Colour") (ne : aO ≠ aT) :
    Con l Z x code maxLocals ret room_1 n0 #[(.int p)] h (R1 fun r h' => r = .int 1) := by
  refine Con.of (ls := [.val (.int p), .unset, .unset]) own_pf_law (fun m => by first | (simp [entryFrame, mkF, argsToLocals, Value.category, maxLocals]; done) | rfl) fun k K => ?_
  have k_0 : (0 : Int32).toInt = 0 := rfl
  have k_1 : (1 : Int32).toInt = 1 := rfl
  refine WP.iloadN K 1 at_0 rfl rfl ?_
  refine WP.iconst K (1 : Int32) 2 at_1 rfl rfl ?_
  refine WP.iand K 3 at_2 rfl ?_
  refine WP.if_ne K 12 6 at_3 (by decide) rfl (fun c3 => ?_) (fun c3 => ?_)
  · skip
    refine WP.getstatic K 15 (hw _ (List.mem_of_getElem? (i := 11) rfl)) Via.refl ST at_12 rfl ?_
    refine WP.astoreN K 16 [.val (.int p), .val (.ref aT), .unset] at_15 rfl rfl rfl ?_
    refine WP.aloadN K 17 at_16 rfl rfl rfl ?_
    refine WP.callV K (a := aT) (C := "com/example/refline/refline/games/quoridor/Colour") 20 0 0 0 [] [] (hw _ (List.mem_of_getElem? (i := 3) rfl)) (hw _ (List.mem_of_getElem? (i := 4) rfl)) rfl (hw _ (List.mem_of_getElem? (i := 6) rfl)) (hw _ (List.mem_of_getElem? (i := 5) rfl)) (hw _ (List.mem_of_getElem? (i := 1) rfl)) (hw _ (List.mem_of_getElem? (i := 7) rfl)) (by decide) own_pd_0 rfl rfl rfl (by decide) (by decide) (Nat.le_of_eq rfl) rfl at_17 rfl rfl rfl (by decide) (by decide) XT (own_opp l Z a0 hw n0 h aT aO aO aT SO ST ⟨fun q => absurd q.symm ne, fun _ => rfl⟩) (r1_next fun r3 h1 q2 => ?_)
    obtain ⟨rfl, rfl⟩ := q2
    refine WP.astoreN K 21 [.val (.int p), .val (.ref aT), .val (.ref aO)] at_20 rfl rfl rfl ?_
    refine WP.aloadN K 22 at_21 rfl rfl rfl ?_
    refine WP.ifnonnull_r K 27 at_22 (by decide) ?_
    refine WP.aloadN K 28 at_27 rfl rfl rfl ?_
    refine WP.aloadN K 29 at_28 rfl rfl rfl ?_
    refine WP.acmp_ne K 34 32 at_29 (by decide) rfl rfl rfl (fun c29 => ?_) (fun c29 => ?_)
    · skip
      refine WP.aloadN K 35 at_34 rfl rfl rfl ?_
      refine WP.callV K (a := aO) (C := "com/example/refline/refline/games/quoridor/Colour") 38 0 0 0 [] [] (hw _ (List.mem_of_getElem? (i := 3) rfl)) (hw _ (List.mem_of_getElem? (i := 4) rfl)) rfl (hw _ (List.mem_of_getElem? (i := 6) rfl)) (hw _ (List.mem_of_getElem? (i := 5) rfl)) (hw _ (List.mem_of_getElem? (i := 1) rfl)) (hw _ (List.mem_of_getElem? (i := 7) rfl)) (by decide) own_pd_0 rfl rfl rfl (by decide) (by decide) (Nat.le_of_eq rfl) rfl at_35 rfl rfl rfl (by decide) (by decide) XO (own_opp l Z a0 hw n0 h aO aT aO aT SO ST ⟨fun _ => rfl, fun q => absurd rfl q⟩) (r1_next fun r6 h4 q5 => ?_)
      obtain ⟨rfl, rfl⟩ := q5
      refine WP.aloadN K 39 at_38 rfl rfl rfl ?_
      refine WP.acmp_ne K 46 42 at_39 (by decide) rfl rfl rfl (fun c39 => ?_) (fun c39 => ?_)
      · skip
        exact absurd rfl c39
      · skip
        refine WP.iconst K (1 : Int32) 43 at_42 rfl rfl ?_
        refine WP.goto K 47 at_43 (by decide) ?_
        refine WP.iret K rfl (Or.inr (Or.inl rfl)) rfl at_47 ?_ (by decide) (by decide)
        exact ⟨_, rfl, rfl⟩
    · skip
      exact (by first | exact absurd (Value.ref.inj c29) ne | exact absurd (Value.ref.inj c29).symm ne)
  · skip
    refine WP.getstatic K 9 (hw _ (List.mem_of_getElem? (i := 0) rfl)) Via.refl SO at_6 rfl ?_
    refine WP.goto K 15 at_9 (by decide) ?_
    refine WP.astoreN K 16 [.val (.int p), .val (.ref aO), .unset] at_15 rfl rfl rfl ?_
    refine WP.aloadN K 17 at_16 rfl rfl rfl ?_
    refine WP.callV K (a := aO) (C := "com/example/refline/refline/games/quoridor/Colour") 20 0 0 0 [] [] (hw _ (List.mem_of_getElem? (i := 3) rfl)) (hw _ (List.mem_of_getElem? (i := 4) rfl)) rfl (hw _ (List.mem_of_getElem? (i := 6) rfl)) (hw _ (List.mem_of_getElem? (i := 5) rfl)) (hw _ (List.mem_of_getElem? (i := 1) rfl)) (hw _ (List.mem_of_getElem? (i := 7) rfl)) (by decide) own_pd_0 rfl rfl rfl (by decide) (by decide) (Nat.le_of_eq rfl) rfl at_17 rfl rfl rfl (by decide) (by decide) XO (own_opp l Z a0 hw n0 h aO aT aO aT SO ST ⟨fun _ => rfl, fun q => absurd rfl q⟩) (r1_next fun r9 h7 q8 => ?_)
    obtain ⟨rfl, rfl⟩ := q8
    refine WP.astoreN K 21 [.val (.int p), .val (.ref aO), .val (.ref aT)] at_20 rfl rfl rfl ?_
    refine WP.aloadN K 22 at_21 rfl rfl rfl ?_
    refine WP.ifnonnull_r K 27 at_22 (by decide) ?_
    refine WP.aloadN K 28 at_27 rfl rfl rfl ?_
    refine WP.aloadN K 29 at_28 rfl rfl rfl ?_
    refine WP.acmp_ne K 34 32 at_29 (by decide) rfl rfl rfl (fun c29 => ?_) (fun c29 => ?_)
    · skip
      refine WP.aloadN K 35 at_34 rfl rfl rfl ?_
      refine WP.callV K (a := aT) (C := "com/example/refline/refline/games/quoridor/Colour") 38 0 0 0 [] [] (hw _ (List.mem_of_getElem? (i := 3) rfl)) (hw _ (List.mem_of_getElem? (i := 4) rfl)) rfl (hw _ (List.mem_of_getElem? (i := 6) rfl)) (hw _ (List.mem_of_getElem? (i := 5) rfl)) (hw _ (List.mem_of_getElem? (i := 1) rfl)) (hw _ (List.mem_of_getElem? (i := 7) rfl)) (by decide) own_pd_0 rfl rfl rfl (by decide) (by decide) (Nat.le_of_eq rfl) rfl at_35 rfl rfl rfl (by decide) (by decide) XT (own_opp l Z a0 hw n0 h aT aO aO aT SO ST ⟨fun q => absurd q.symm ne, fun _ => rfl⟩) (r1_next fun r12 h10 q11 => ?_)
      obtain ⟨rfl, rfl⟩ := q11
      refine WP.aloadN K 39 at_38 rfl rfl rfl ?_
      refine WP.acmp_ne K 46 42 at_39 (by decide) rfl rfl rfl (fun c39 => ?_) (fun c39 => ?_)
      · skip
        exact absurd rfl c39
      · skip
        refine WP.iconst K (1 : Int32) 43 at_42 rfl rfl ?_
        refine WP.goto K 47 at_43 (by decide) ?_
        refine WP.iret K rfl (Or.inr (Or.inl rfl)) rfl at_47 ?_ (by decide) (by decide)
        exact ⟨_, rfl, rfl⟩
    · skip
      exact (by first | exact absurd (Value.ref.inj c29) ne | exact absurd (Value.ref.inj c29).symm ne)
set_option maxRecDepth 65536 in
set_option maxHeartbeats 40000000 in
theorem comes_1 {Post : Tables → Env → Array Value → State → Outcome → State → Prop} (hpost : ∀ tb e args s v u, (limb_1_1.after args s (.returned v) u = true ∧ limb_1_2.after args s (.returned v) u = true ∧ True) → FrameEnd s (.returned v) u (Jvm.fieldLocs frame_1_writes args s ++ Jvm.arrayLocs frame_1_arrays args s ++ Jvm.staticLocs frame_1_statics s) 0 0 → Post tb e args s (.returned v) u) :
    ArmFor flags0 classFile x code maxLocals ret World_1 tables_1 room_1 Calls_1 rest_1 Pre_1 Post := by
  intro l hfl _ _ p e ha hc hk s m args below hf hA hF happ hP
  obtain ⟨hcalls, hrest, hpre⟩ := hP
  obtain ⟨-, -, -, hnamed, -, -, -, hat⟩ := (Spec.applies_iff hf).mp happ
  obtain ⟨hg, hn⟩ := and_e (Cond.before_iff.mp (show (Jvm.Cond.and given_1 narrow_1).before args s = true from hpre))
  obtain ⟨g0, g1⟩ := and_e hg
  obtain ⟨w0, rfl⟩ : ∃ w0 : Value, args = #[w0] := by
    have hs : args.size = 1 := by simpa [Cond.value, given_1] using g0
    obtain ⟨L⟩ := args
    match L, hs with
    | [w0], _ => exact ⟨w0, rfl⟩
  have hw := fun d (hd : d ∈ tables_1) => atoms_spec (ws := Jvm.Cond.code x code maxLocals ret :: tables_1) hat d (List.mem_cons_of_mem _ hd)
  have hfit : Fit s := fun {y c} hc i hi => by
    obtain ⟨ha, rfl⟩ := Array.getElem?_eq_some_iff.mp hc
    have q := List.all_eq_true.mp ((Array.all_eq_true_iff_forall_mem.mp hF) _ (Array.getElem_mem ha)) i (List.mem_range.mpr hi)
    simpa [Array.getElem?_eq_getElem hi] using q
  obtain ⟨i0, ei0⟩ := is_v g1
  obtain rfl : w0 = (.int i0) := Option.some.inj ei0
  obtain ⟨n1, hn'⟩ := and_e hn
  obtain ⟨n2, hn''⟩ := and_e hn'
  obtain ⟨n3, n4⟩ := and_e hn''
  obtain ⟨aO, _, _, _, eO, -⟩ := Cond.exactly_spec (Cond.before_iff.mpr n1)
  obtain ⟨aT, _, _, _, eT, -⟩ := Cond.exactly_spec (Cond.before_iff.mpr n2)
  have XO := Exa.start eO n1
  have XT := Exa.start eT n2
  have SO := Sta.start eO (Or.inr ⟨(hw _ (List.mem_of_getElem? (i := 1) rfl)), (hw _ (List.mem_of_getElem? (i := 2) rfl))⟩)
  have ST := Sta.start eT (Or.inr ⟨(hw _ (List.mem_of_getElem? (i := 1) rfl)), (hw _ (List.mem_of_getElem? (i := 10) rfl))⟩)
  have ne : aO ≠ aT := by
    intro e
    have f1 := own_ord eT n3
    have f2 := own_ord eO n4
    first | rw [e] at f1 | rw [e] at f2
    first | rw [f1] at f2 | rw [e, f1] at f2
    simp at f2
  obtain ⟨n, o, h1, h2, h3, _, L, rfl, ⟨⟨_, rfl, rfl⟩, N⟩, hq⟩ := own_law l s _ hw s.heap.size s.heap i0 aO aT SO ST XO XT ne tables_1 p e ha hc hk s m _ below hf ((Spec.applies_iff_loose hf).mp happ).1 ⟨rfl, State.Warmed39.refl s, rfl⟩ trivial
  refine ⟨n, _, h1, h2, h3, hpost _ _ _ _ _ _ ⟨Cond.after_iff.mpr rfl, Cond.after_iff.mpr (eq_i res_at (Term.int_eval (1)) rfl), trivial⟩ ⟨hq.1, hq.2.1, (hq.2.2.sift fun y hy => Or.inr (N y hy)).mono (by decide) (by decide)⟩⟩
theorem main_1_1 : Claimed_1_1 := comes_1 fun _ _ _ _ _ _ h hF => ⟨h.1, hF⟩
theorem main_1_2 : Claimed_1_2 := comes_1 fun _ _ _ _ _ _ h hF => ⟨h.2.1, hF⟩
end Jvm.Pilot.@@N@@
namespace Jvm.Pilot.@@N@@
open Jvm Jvm.ClassFile Sem Op Lib Jvm.Free Jvm.Stand Jvm.Pilot.@@N@@.Jvm.D
/-! MADE BY PROGRAM (witnessworld.py) out of the Statement's table words and the real class files: 12 classes; the members and pool entries that the words name. The judged class is class 1, her method 1. -/
namespace start1
open Jvm.ClassFile
def u (s : String) : CpInfo := .utf8 (stringToUtf16 s)
/-- a pool by its gaps: so many unusable entries, then the entry; so many at the end -/
def gap : Nat → List CpInfo → List CpInfo
  | 0, r => r
  | n + 1, r => .unusable :: gap n r
def poolList (es : List (Nat × CpInfo)) (last : Nat) : List CpInfo := es.foldr (fun e r => gap e.1 (e.2 :: r)) (gap last [])
def pool (es : List (Nat × CpInfo)) (last : Nat) : Array CpInfo := ⟨poolList es last⟩
def fileOf (pool : Array CpInfo) (this : Nat) (attrs : Array Attribute := #[]) (ms : Array MethodInfo := #[]) (fl : Nat := 33) (sup : Nat := 0) (ifs : Array Nat := #[]) (fds : Array FieldInfo := #[]) : ClassFile where
  minorVersion := 0
  majorVersion := 65
  constantPool := pool
  accessFlags := fl
  thisClass := this
  superClass := sup
  interfaces := ifs
  fields := fds
  methods := ms
  attributes := attrs
def plain (name : String) (sup : Option ClassId) : Class where
  name := name
  kind := .ordinary
  loader := none
  accessFlags := 33
  super := sup
  interfaces := #[]
  cf := none
  fields := #[]
  methods := #[]
  instanceTypes := #[]
  staticTypes := #[]
  resolved := #[]
  callSites := []
  init := .initialized
  statics := none
  mirror := none

def pool0 : Array CpInfo := pool [(5, u "<init>"), (0, u "()V"), (1, .class_ 10), (1, u "java/lang/Object")] 113

def k0m0 : Method := { name := "<init>", desc := "()V", sig := { parameters := [], returnType := none }, accessFlags := 1, code := none }
/-- java/lang/Object -/
def k0 : Class := { plain "java/lang/Object" none with
  accessFlags := 33
  interfaces := #[]
  cf := some (fileOf pool0 8 #[] #[{ accessFlags := 1, nameIndex := 5, descriptorIndex := 6, attributes := #[] }] 33 0 #[] #[])
  fields := #[]
  methods := #[k0m0]
  instanceTypes := #[]
  staticTypes := #[]
  resolved := Array.replicate 124 none
  statics := none }

def pool1 : Array CpInfo := pool [(2, .class_ 4), (1, u "java/lang/Object"), (0, u "<init>"), (0, u "()V"), (0, .fieldref 8 9), (0, .class_ 10), (0, .nameAndType 11 12), (0, u "com/example/refline/refline/games/quoridor/Colour"), (0, u "WHITE"), (0, u "Lcom/example/refline/refline/games/quoridor/Colour;"), (0, .fieldref 8 14), (0, .nameAndType 15 12), (0, u "BLACK"), (0, .methodref 8 17), (0, .nameAndType 18 19), (0, u "opposite"), (0, u "()Lcom/example/refline/refline/games/quoridor/Colour;"), (0, .class_ 21), (0, u "com/example/refline/refline/games/quoridor/ColourOppositePinLaw"), (2, u "law"), (0, u "(I)Z")] 3

def k1m0 : Method := { name := "<init>", desc := "()V", sig := { parameters := [], returnType := none }, accessFlags := 2, code := none }
def k1c1 : Code := { maxStack := 2, maxLocals := 3, code := code, exceptionTable := #[], attributes := #[] }
def k1m1 : Method := { name := "law", desc := "(I)Z", sig := { parameters := [.int], returnType := some .boolean }, accessFlags := 9, code := some k1c1 }
/-- com/example/refline/refline/games/quoridor/ColourOppositePinLaw -/
def k1 : Class := { plain "com/example/refline/refline/games/quoridor/ColourOppositePinLaw" (some 0) with
  accessFlags := 49
  interfaces := #[]
  cf := some (fileOf pool1 20 #[] #[{ accessFlags := 2, nameIndex := 5, descriptorIndex := 6, attributes := #[] }, { accessFlags := 9, nameIndex := 24, descriptorIndex := 25, attributes := #[] }] 49 2 #[] #[])
  fields := #[]
  methods := #[k1m0, k1m1]
  instanceTypes := #[]
  staticTypes := #[]
  resolved := Array.replicate 29 none
  statics := none }

def pool2 : Array CpInfo := pool [(1, .class_ 2), (0, u "java/lang/constant/Constable"), (0, .class_ 4), (0, u "java/lang/Object")] 6

/-- java/lang/constant/Constable -/
def k2 : Class := { plain "java/lang/constant/Constable" (some 0) with
  accessFlags := 1537
  interfaces := #[]
  cf := some (fileOf pool2 1 #[] #[] 1537 3 #[] #[])
  fields := #[]
  methods := #[]
  instanceTypes := #[]
  staticTypes := #[]
  resolved := Array.replicate 11 none
  statics := none }

def pool3 : Array CpInfo := pool [(1, .class_ 2), (0, u "java/lang/Comparable"), (0, .class_ 4), (0, u "java/lang/Object")] 7

/-- java/lang/Comparable -/
def k3 : Class := { plain "java/lang/Comparable" (some 0) with
  accessFlags := 1537
  interfaces := #[]
  cf := some (fileOf pool3 1 #[] #[] 1537 3 #[] #[])
  fields := #[]
  methods := #[]
  instanceTypes := #[]
  staticTypes := #[]
  resolved := Array.replicate 12 none
  statics := none }

def pool4 : Array CpInfo := pool [(1, .class_ 2), (0, u "java/io/Serializable"), (0, .class_ 4), (0, u "java/lang/Object")] 2

/-- java/io/Serializable -/
def k4 : Class := { plain "java/io/Serializable" (some 0) with
  accessFlags := 1537
  interfaces := #[]
  cf := some (fileOf pool4 1 #[] #[] 1537 3 #[] #[])
  fields := #[]
  methods := #[]
  instanceTypes := #[]
  staticTypes := #[]
  resolved := Array.replicate 7 none
  statics := none }

def pool5 : Array CpInfo := pool [(2, .class_ 4), (1, u "java/lang/Enum"), (0, u "name"), (0, u "Ljava/lang/String;"), (2, u "ordinal"), (0, u "I"), (1, .class_ 14), (1, u "java/lang/Object"), (4, u "hash"), (86, .class_ 108), (1, u "java/lang/Enum$EnumDesc"), (2, .class_ 112), (0, u "java/lang/constant/Constable"), (0, .class_ 114), (0, u "java/lang/Comparable"), (0, .class_ 116), (0, u "java/io/Serializable")] 87

/-- java/lang/Enum -/
def k5 : Class := { plain "java/lang/Enum" (some 0) with
  accessFlags := 1057
  interfaces := #[2, 3, 4]
  cf := some (fileOf pool5 2 #[.nestMembers #[106]] #[] 1057 12 #[111, 113, 115] #[{ accessFlags := 18, nameIndex := 5, descriptorIndex := 6, attributes := #[] }, { accessFlags := 18, nameIndex := 9, descriptorIndex := 10, attributes := #[] }, { accessFlags := 2, nameIndex := 19, descriptorIndex := 10, attributes := #[] }])
  fields := #[{ name := "name", type := (.object "java/lang/String"), accessFlags := 18, slot := 0, constantValue := 0 }, { name := "ordinal", type := .int, accessFlags := 18, slot := 1, constantValue := 0 }, { name := "hash", type := .int, accessFlags := 2, slot := 2, constantValue := 0 }]
  methods := #[]
  instanceTypes := #[(.object "java/lang/String"), .int, .int]
  staticTypes := #[]
  resolved := Array.replicate 204 none
  statics := none }

def pool6 : Array CpInfo := pool [(1, .class_ 2), (0, u "com/example/refline/refline/games/quoridor/Colour"), (0, .fieldref 1 4), (0, .nameAndType 5 6), (0, u "WHITE"), (0, u "Lcom/example/refline/refline/games/quoridor/Colour;"), (0, .fieldref 1 8), (0, .nameAndType 9 6), (0, u "BLACK"), (2, u "$VALUES"), (0, u "[Lcom/example/refline/refline/games/quoridor/Colour;"), (6, .class_ 22), (1, u "java/lang/Enum"), (34, u "opposite"), (0, u "()Lcom/example/refline/refline/games/quoridor/Colour;")] 26

def k6c0 : Code := { maxStack := 2, maxLocals := 1, code := prog_56_method_6_code, exceptionTable := #[], attributes := #[] }
def k6m0 : Method := { name := "opposite", desc := "()Lcom/example/refline/refline/games/quoridor/Colour;", sig := { parameters := [], returnType := some (.object "com/example/refline/refline/games/quoridor/Colour") }, accessFlags := 1, code := some k6c0 }
/-- com/example/refline/refline/games/quoridor/Colour -/
def k6 : Class := { plain "com/example/refline/refline/games/quoridor/Colour" (some 5) with
  accessFlags := 16433
  interfaces := #[]
  cf := some (fileOf pool6 1 #[] #[{ accessFlags := 1, nameIndex := 57, descriptorIndex := 58, attributes := #[] }] 16433 20 #[] #[{ accessFlags := 16409, nameIndex := 5, descriptorIndex := 6, attributes := #[] }, { accessFlags := 16409, nameIndex := 9, descriptorIndex := 6, attributes := #[] }, { accessFlags := 4122, nameIndex := 12, descriptorIndex := 13, attributes := #[] }])
  fields := #[{ name := "WHITE", type := (.object "com/example/refline/refline/games/quoridor/Colour"), accessFlags := 16409, slot := 0, constantValue := 0 }, { name := "BLACK", type := (.object "com/example/refline/refline/games/quoridor/Colour"), accessFlags := 16409, slot := 1, constantValue := 0 }, { name := "$VALUES", type := (.array (.object "com/example/refline/refline/games/quoridor/Colour")), accessFlags := 4122, slot := 2, constantValue := 0 }]
  methods := #[k6m0]
  instanceTypes := #[(.object "java/lang/String"), .int, .int]
  staticTypes := #[(.object "com/example/refline/refline/games/quoridor/Colour"), (.object "com/example/refline/refline/games/quoridor/Colour"), (.array (.object "com/example/refline/refline/games/quoridor/Colour"))]
  resolved := Array.replicate 85 none
  statics := some 0 }

def pool7 : Array CpInfo := pool [(1, u "java/lang/Cloneable"), (0, .class_ 1), (0, u "java/lang/Object"), (0, .class_ 3)] 3

/-- java/lang/Cloneable -/
def k7 : Class := { plain "java/lang/Cloneable" (some 0) with
  accessFlags := 1537
  interfaces := #[]
  cf := some (fileOf pool7 2 #[] #[] 1537 4 #[] #[])
  fields := #[]
  methods := #[]
  instanceTypes := #[]
  staticTypes := #[]
  resolved := Array.replicate 8 none
  statics := none }

/-- the primitive byte -/
def k8 : Class := { plain "byte" none with kind := .primitive 'B', accessFlags := 0x411 }
/-- [B -/
def k9 : Class := { plain "[B" (some 0) with kind := .array 8 .byte, interfaces := #[7, 4], accessFlags := 1041 }

/-- the primitive int -/
def k10 : Class := { plain "int" none with kind := .primitive 'I', accessFlags := 0x411 }
/-- [I -/
def k11 : Class := { plain "[I" (some 0) with kind := .array 10 .int, interfaces := #[7, 4], accessFlags := 1041 }

def heap : Heap := #[{ cls := 6, slots := #[.ref 1, .ref 2, .null], vm := .statics 6 },
  { cls := 6, slots := #[.null, .int 0, .int 0], vm := .none },
  { cls := 6, slots := #[.null, .int 1, .int 0], vm := .none }]
def classes : Array Class := #[k0, k1, k2, k3, k4, k5, k6, k7, k8, k9, k10, k11]
def interned : List (Array UInt16 × Addr) := []
def slotsUsed : Nat := 9
def theMethod : MethodId := ⟨1, 1⟩
def args0 : Array Value := #[.int 5]
def aboutOver (below : List Frame) : State where
  vm := { classes := classes, interned := interned.toArray }
  heap := heap
  slotsUsed := slotsUsed
  threads := #[{ frames := .invoking theMethod args0 :: below }]
def below0 : List Frame := [.native { method := ⟨0, 0⟩, args := #[] }]
def about1 : State := aboutOver below0
def p0 : Program := .bare "" "" ""
def e0 : Env := launch0.env 0 0 0
theorem w_frames : about1.frames = Frame.invoking theMethod args0 :: below0 := rfl
set_option maxRecDepth 65536 in
theorem w_args : argsFit about1.vm theMethod args0 = true := by decide +kernel
set_option maxRecDepth 65536 in
theorem w_heap : heapFits about1 = true := by decide +kernel
set_option maxRecDepth 65536 in
theorem w_runnable : about1.curStatus? = some .runnable := by decide +kernel
set_option maxRecDepth 65536 in
theorem w_alone : about1.alone = true := by decide +kernel
set_option maxRecDepth 65536 in
theorem w_named : about1.methodNamed? x = some theMethod := by decide +kernel
set_option maxRecDepth 65536 in
theorem w_hears : about1.hears theMethod below0 = true := by decide +kernel
set_option maxRecDepth 65536 in
theorem w_ripe : about1.ripe theMethod args0 below0 = true := by decide +kernel
theorem w_running : about1.status = .running := rfl
set_option maxRecDepth 65536 in
theorem w_room : about1.hasRoom e0.platform room_1 = true :=
  launch0.hasRoom_least _ room_1 (by decide +kernel) (by decide +kernel) (by decide +kernel) (by decide +kernel) (by decide +kernel) (by decide +kernel)
theorem allAtoms_all (ts : List Jvm.Cond) (a : Array Jvm.Value) (st : Jvm.State) : (allAtoms ts).before a st = ts.all (fun c => c.before a st) := by
  induction ts with
  | nil => rfl
  | cons c t ih =>
    show (Jvm.Cond.and c (allAtoms t)).before a st = _
    rw [Jvm.Cond.before_and, ih, List.all_cons]
def words1 : List Jvm.Cond := Jvm.Cond.code x code maxLocals ret :: tables_1
/-- a 'code' word, met by the world's own term for the bytes: nothing is compared byte by byte -/
theorem code_word {y : MethodName} {bytes : ByteArray} {mx : Nat} {rt : Option FieldType} {a : Array Value} {s : State} {m : MethodId} {meth : Method} {c : Code} (h1 : s.methodNamed? y = some m) (h2 : s.vm.method? m = some meth) (h3 : meth.code = some c) (h4 : c.code = bytes)
    (h5 : (c.maxLocals == mx && c.exceptionTable.isEmpty && decide (c.maxStack ≤ mostOperands) && decide (meth.sig.returnType = rt) && !meth.locks && decide (parseMethodDescriptor y.desc = some meth.sig)) = true) : (Jvm.Cond.code y bytes mx rt).before a s = true := by
  simp only [Bool.and_eq_true, beq_iff_eq, Bool.not_eq_true', decide_eq_true_eq] at h5
  obtain ⟨⟨⟨⟨⟨g1, g2⟩, g3⟩, g4⟩, g5⟩, g6⟩ := h5
  simp [Cond.before, Cond.holds, Cond.value, h1, h2, h3, h4, g1, g2, g3, g4, g5, g6]
def isCode : Jvm.Cond → Bool
  | .code _ _ _ _ => true
  | _ => false
theorem all_split {L : List Jvm.Cond} {P : Jvm.Cond → Bool} (h1 : L.all (fun c => isCode c || P c) = true) (h2 : ∀ c ∈ L.filter isCode, P c = true) : L.all P = true := by
  refine List.all_eq_true.mpr fun c hc => ?_
  have h := List.all_eq_true.mp h1 c hc
  rcases Bool.eq_false_or_eq_true (isCode c) with hi | hi
  · exact h2 c (List.mem_filter.mpr ⟨hc, hi⟩)
  · simpa [hi] using h
set_option maxRecDepth 65536 in
theorem w_c0 : (Jvm.Cond.code x code maxLocals ret).before args0 about1 = true := code_word (m := ⟨1, 1⟩) (meth := k1m1) (c := k1c1) (by decide +kernel) rfl rfl rfl (by decide +kernel)
set_option maxRecDepth 65536 in
theorem w_c1 : (Jvm.Cond.code ({ cls := "com/example/refline/refline/games/quoridor/Colour", name := "opposite", desc := "()Lcom/example/refline/refline/games/quoridor/Colour;" } : Jvm.MethodName) prog_56_method_6_code (1 : Nat) (Option.some (Jvm.ClassFile.FieldType.object "com/example/refline/refline/games/quoridor/Colour"))).before args0 about1 = true := code_word (m := ⟨6, 0⟩) (meth := k6m0) (c := k6c0) (by decide +kernel) rfl rfl rfl (by decide +kernel)
def codes1 : List Jvm.Cond := [Jvm.Cond.code x code maxLocals ret, Jvm.Cond.code ({ cls := "com/example/refline/refline/games/quoridor/Colour", name := "opposite", desc := "()Lcom/example/refline/refline/games/quoridor/Colour;" } : Jvm.MethodName) prog_56_method_6_code (1 : Nat) (Option.some (Jvm.ClassFile.FieldType.object "com/example/refline/refline/games/quoridor/Colour"))]
set_option maxRecDepth 65536 in
theorem codes_eq : words1.filter isCode = codes1 := rfl
theorem w_codes : ∀ c ∈ words1.filter isCode, c.before args0 about1 = true := by
  rw [codes_eq]
  intro c hc
  simp only [codes1, List.mem_cons, List.not_mem_nil, or_false] at hc
  rcases hc with rfl | rfl
  · exact w_c0
  · exact w_c1
set_option maxRecDepth 65536 in
theorem w_t1 : words1.all (fun c => isCode c || c.before args0 about1) = true := by decide +kernel
theorem w_tables : (allAtoms (Jvm.Cond.code x code maxLocals ret :: tables_1)).before args0 about1 = true := by
  rw [allAtoms_all]
  show words1.all (fun c => c.before args0 about1) = true
  refine all_split ?_ w_codes
  rw [w_t1]
set_option maxRecDepth 65536 in
theorem w_case : (Jvm.Cond.and given_1 narrow_1).before args0 about1 = true := by decide +kernel
theorem w_applies : (headSpec (Jvm.Cond.code x code maxLocals ret :: tables_1) room_1).applies x e0.platform about1 = true :=
  (Spec.applies_iff w_frames).mpr ⟨w_running, w_runnable, w_alone, w_named, w_hears, w_ripe, w_room, w_tables⟩
theorem atStart : AtStart classFile x code maxLocals ret World_1 tables_1 room_1 Calls_1 rest_1 Pre_1 launch0 p0 e0 about1 theMethod args0 below0 :=
  ⟨lists_1, trivial, launch0.admits_env _ _ _, launch0.least_env, fairChoices_fair.cas, fairChoices_fair.clock, w_frames, w_args, w_heap, w_applies, trivial, trivial, w_case⟩
end start1
theorem witness_1 : WitnessClaimed_1 := ⟨start1.p0, start1.e0, start1.about1, start1.theMethod, start1.args0, start1.below0, start1.atStart⟩
end Jvm.Pilot.@@N@@
