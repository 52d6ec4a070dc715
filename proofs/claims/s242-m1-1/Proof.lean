import JvmDerived
import JvmDerived.Pilot.@@N@@Statement
import JvmDerived.Pilot.@@N@@Code
set_option linter.unusedVariables false
set_option linter.unusedSimpArgs false
namespace Jvm.OwnWP
open Sem ClassFile Op Lib Jvm.Stand Jvm.Free Jvm.LawKit Jvm.RoadKit
/-- the fixed things of a body's walk -/
abbrev Cx := Program × Launch × Env × Room × State × MethodId × Array Value × List Frame × Method × Code × State × Nat × (Option Value → Heap → Prop) × (Outcome → State → List Loc → Prop)
def Cx.p (k : Cx) : Program := k.1
def Cx.l (k : Cx) : Launch := k.2.1
def Cx.e (k : Cx) : Env := k.2.2.1
def Cx.R (k : Cx) : Room := k.2.2.2.1
def Cx.s (k : Cx) : State := k.2.2.2.2.1
def Cx.m (k : Cx) : MethodId := k.2.2.2.2.2.1
def Cx.args (k : Cx) : Array Value := k.2.2.2.2.2.2.1
def Cx.below (k : Cx) : List Frame := k.2.2.2.2.2.2.2.1
def Cx.meth (k : Cx) : Method := k.2.2.2.2.2.2.2.2.1
def Cx.c (k : Cx) : Code := k.2.2.2.2.2.2.2.2.2.1
def Cx.Z (k : Cx) : State := k.2.2.2.2.2.2.2.2.2.2.1
def Cx.n0 (k : Cx) : Nat := k.2.2.2.2.2.2.2.2.2.2.2.1
def Cx.Q (k : Cx) : Option Value → Heap → Prop := k.2.2.2.2.2.2.2.2.2.2.2.2.1
/-- what the body's end must say of the frame -/
def Cx.Fin (k : Cx) : Outcome → State → List Loc → Prop := k.2.2.2.2.2.2.2.2.2.2.2.2.2
def Cx.St (k : Cx) (T : State) (locs : List Loc) (cells slots : Nat) : Prop := Stand k.p k.l k.e k.R k.s k.m k.args k.below k.meth k.c T locs cells slots
def Cx.Go (k : Cx) (a t : State) : Prop := Steps k.p.tables k.e k.below a t
def Cx.End (k : Cx) (a : State) : Prop := ∃ s₂ o, Steps k.p.tables k.e k.below a s₂ ∧ s₂.status = .running ∧ Ended s₂ k.below o ∧ ∃ v L, o = .returned v ∧ (k.Q v s₂.heap ∧ Fr k.n0 L) ∧ k.Fin o s₂ L
/-- from here the body runs to its end and leaves what Q says -/
def WP (k : Cx) (h : Heap) (cells slots pc : Nat) (ls : List Slot) (st : List Value) : Prop :=
  ∀ (T : State) (locs : List Loc), k.St T locs cells slots → T.heap = h → Fr k.n0 locs → k.End (T.setTop (mkF k.m pc ls.toArray st))
def Ok (k : Cx) (l : Launch) (Z : State) (n0 : Nat) (rm : Room) (bytes : ByteArray) (maxL : Nat) (y : MethodName) (ret : Option FieldType) (Q : Option Value → Heap → Prop) : Prop :=
  k.p.tables.exec = Jvm.exec ∧ Z.Warmed39 k.s.vm ∧ k.R = rm ∧ k.c.code = bytes ∧ k.c.maxLocals = maxL ∧ k.s.vm.findClass y.cls = some k.m.cls ∧ k.meth.sig.returnType = ret ∧ k.meth.locks = false ∧ k.meth.name = y.name ∧ k.l = l ∧ k.Z = Z ∧ k.n0 = n0 ∧ k.Q = Q ∧ ∀ v s₂ L, Q v s₂.heap → FrameEnd k.s (.returned v) s₂ L k.R.cells k.R.slots → k.Fin (.returned v) s₂ L
section Base
variable {k : Cx} {l : Launch} {Z : State} {n0 : Nat} {rm : Room} {bytes : ByteArray} {maxL : Nat} {y : MethodName} {ret : Option FieldType} {Q : Option Value → Heap → Prop}
theorem Ok.hx (K : Ok k l Z n0 rm bytes maxL y ret Q) : k.p.tables.exec = Jvm.exec := K.1
theorem Ok.hZ (K : Ok k l Z n0 rm bytes maxL y ret Q) : Z.Warmed39 k.s.vm := K.2.1
theorem Ok.hR (K : Ok k l Z n0 rm bytes maxL y ret Q) : k.R = rm := K.2.2.1
theorem Ok.hby (K : Ok k l Z n0 rm bytes maxL y ret Q) : k.c.code = bytes := K.2.2.2.1
theorem Ok.hml (K : Ok k l Z n0 rm bytes maxL y ret Q) : k.c.maxLocals = maxL := K.2.2.2.2.1
theorem Ok.hown (K : Ok k l Z n0 rm bytes maxL y ret Q) : k.s.vm.findClass y.cls = some k.m.cls := K.2.2.2.2.2.1
theorem Ok.hret (K : Ok k l Z n0 rm bytes maxL y ret Q) : k.meth.sig.returnType = ret := K.2.2.2.2.2.2.1
theorem Ok.hlk (K : Ok k l Z n0 rm bytes maxL y ret Q) : k.meth.locks = false := K.2.2.2.2.2.2.2.1
theorem Ok.hnm (K : Ok k l Z n0 rm bytes maxL y ret Q) : k.meth.name = y.name := K.2.2.2.2.2.2.2.2.1
theorem Ok.hl (K : Ok k l Z n0 rm bytes maxL y ret Q) : k.l = l := K.2.2.2.2.2.2.2.2.2.1
theorem Ok.hZe (K : Ok k l Z n0 rm bytes maxL y ret Q) : k.Z = Z := K.2.2.2.2.2.2.2.2.2.2.1
theorem Ok.hn0 (K : Ok k l Z n0 rm bytes maxL y ret Q) : k.n0 = n0 := K.2.2.2.2.2.2.2.2.2.2.2.1
theorem Ok.hQ (K : Ok k l Z n0 rm bytes maxL y ret Q) : k.Q = Q := K.2.2.2.2.2.2.2.2.2.2.2.2.1
theorem Ok.hfin (K : Ok k l Z n0 rm bytes maxL y ret Q) : ∀ v s₂ L, Q v s₂.heap → FrameEnd k.s (.returned v) s₂ L k.R.cells k.R.slots → k.Fin (.returned v) s₂ L := K.2.2.2.2.2.2.2.2.2.2.2.2.2
theorem Ok.dec (K : Ok k l Z n0 rm bytes maxL y ret Q) {pc : Nat} {r : Except DecodeError (Instr × Nat)} (h : decode bytes pc = r) : decode k.c.code pc = r := hb K.hby h
theorem End.back {a b : State} (st : ∀ t, k.Go b t → k.Go a t) (w : k.End b) : k.End a := by
  obtain ⟨s2, o, h1, r⟩ := w
  exact ⟨s2, o, st _ h1, r⟩
theorem arrGet {ls : List Slot} {i : Nat} {o : Slot} (h : ls[i]? = some o) : ls.toArray[i]? = some o := by simpa using h
variable {h : Heap} {cells slots pc : Nat} {ls : List Slot} {st : List Value}
theorem WP.plain {pc' : Nat} {ls' : List Slot} {st' : List Value} (hs : ∀ T, At T k.m k.c k.below → ∀ t, Steps k.p.tables k.e k.below (T.setTop (mkF k.m pc' ls'.toArray st')) t → Steps k.p.tables k.e k.below (T.setTop (mkF k.m pc ls.toArray st)) t)
    (w : WP k h cells slots pc' ls' st') : WP k h cells slots pc ls st := fun T locs X e N => End.back (fun t q => hs T X.here t q) (w T locs X e N)
theorem WP.mono {cells' slots' : Nat} (hc : cells ≤ cells') (hs : slots ≤ slots') (w : WP k h cells' slots' pc ls st) : WP k h cells slots pc ls st := fun T locs X e N =>
  w T locs { X with same := X.same.mono hc hs } e N
theorem WP.cast {pc' : Nat} {ls' : List Slot} {st' : List Value} {h' : Heap} (w : WP k h' cells slots pc' ls' st') (e1 : h' = h) (e2 : pc' = pc) (e3 : ls' = ls) (e4 : st' = st) : WP k h cells slots pc ls st := by subst e1 e2 e3 e4; exact w
/-- the contract of a body, at given arguments and a given heap -/
def Con (l : Launch) (Z : State) (y : MethodName) (bytes : ByteArray) (maxL : Nat) (ret : Option FieldType) (rm : Room) (n0 : Nat) (as : Array Value) (h0 : Heap) (Q : Option Value → Heap → Prop) : Prop :=
  ∀ ws, MetFree l y (head1 (Jvm.Cond.code y bytes maxL ret :: ws) rm) (fun a U => a = as ∧ Z.Warmed39 U.vm ∧ U.heap = h0) (fun _ _ _ _ _ => True) (fun _ U o U' => ∃ v L, o = .returned v ∧ (Q v U'.heap ∧ Fr n0 L) ∧ FrameEnd U o U' L rm.cells rm.slots)
def R1 (Q : Value → Heap → Prop) : Option Value → Heap → Prop := fun v h => ∃ r, v = some r ∧ Q r h
def R0 (Q : Heap → Prop) : Option Value → Heap → Prop := fun v h => v = none ∧ Q h
theorem Con.of {as : Array Value} {h0 : Heap} (hp : plainFor y = true) (he : ∀ m, entryFrame m as maxL = mkF m 0 ls.toArray [])
    (hwp : ∀ k, Ok k l Z n0 rm bytes maxL y ret Q → WP k h0 0 0 0 ls []) : Con l Z y bytes maxL ret rm n0 as h0 Q := by
  intro ws
  refine MetFree.of_bodySF hp hisR ?_
  intro p e s m args below meth c s₁ Bd hml0 hP hK
  obtain ⟨rfl, hZ, hh⟩ := hP
  have X0 : Stand p l e rm s m args below meth c s₁ [] 0 0 := Stand.of_body Bd
  have e0 : s₁.heap = h0 := by rw [← hh, Bd.state]; rfl
  have w := hwp (p, l, e, rm, s, m, args, below, meth, c, Z, n0, Q, fun o s₂ L => FrameEnd s o s₂ L rm.cells rm.slots) ⟨Bd.exec, hZ, rfl, Bd.bytes, hml0, findClass_of_methodNamed Bd.named, Bd.returns, Bd.notSynchronized, (name_of_methodNamed Bd.named Bd.method).1, rfl, rfl, rfl, rfl, fun _ _ _ _ q => q⟩ s₁ [] X0 e0 (Fr.nil n0)
  obtain ⟨s2, o, h1, h2, h3, h4⟩ := w
  exact ⟨s2, o, castTop (he m) h1, h2, h3, h4⟩
theorem Con.mono {as : Array Value} {h0 : Heap} {Q' : Option Value → Heap → Prop} (C : Con l Z y bytes maxL ret rm n0 as h0 Q) (hq : ∀ v h, Q v h → Q' v h) : Con l Z y bytes maxL ret rm n0 as h0 Q' := by
  intro ws p e ha hc hk s m args below hf happ hP hK
  obtain ⟨n, o, h1, h2, h3, v, L, e1, q, r⟩ := C ws p e ha hc hk s m args below hf happ hP hK
  exact ⟨n, o, h1, h2, h3, v, L, e1, ⟨hq _ _ q.1, q.2⟩, r⟩
end Base
section Plain
variable {k : Cx} {l : Launch} {Z : State} {n0 : Nat} {rm : Room} {bytes : ByteArray} {maxL : Nat} {y : MethodName} {ret : Option FieldType} {Q : Option Value → Heap → Prop} {h : Heap} {cells slots pc : Nat} {ls : List Slot} {st : List Value}

theorem WP.iload (K : Ok k l Z n0 rm bytes maxL y ret Q) {i : Nat} {v : Int32} (pc' : Nat) (hd : decode bytes pc = .ok (.iload i, 2)) (hp : pc + 2 = pc') (hl : ls[i]? = some (.val (.int v))) (w : WP k h cells slots pc' ls (.int v :: st)) : WP k h cells slots pc ls st := by
  subst hp; exact w.plain fun T A t q => XS.iload A K.hx rfl (K.dec hd) (arrGet hl) q
theorem WP.iloadN (K : Ok k l Z n0 rm bytes maxL y ret Q) {i : Fin 4} {v : Int32} (pc' : Nat) (hd : decode bytes pc = .ok (.iload_n i, 1)) (hp : pc + 1 = pc') (hl : ls[i.val]? = some (.val (.int v))) (w : WP k h cells slots pc' ls (.int v :: st)) : WP k h cells slots pc ls st := by
  subst hp; exact w.plain fun T A t q => XS.iloadN A K.hx rfl (K.dec hd) (arrGet hl) q
theorem WP.lload (K : Ok k l Z n0 rm bytes maxL y ret Q) {i : Nat} {v : Int64} (pc' : Nat) (hd : decode bytes pc = .ok (.lload i, 2)) (hp : pc + 2 = pc') (hl : ls[i]? = some (.val (.long v))) (w : WP k h cells slots pc' ls (.long v :: st)) : WP k h cells slots pc ls st := by
  subst hp; exact w.plain fun T A t q => XT.lload A K.hx rfl (K.dec hd) (arrGet hl) q
theorem WP.lloadN (K : Ok k l Z n0 rm bytes maxL y ret Q) {i : Fin 4} {v : Int64} (pc' : Nat) (hd : decode bytes pc = .ok (.lload_n i, 1)) (hp : pc + 1 = pc') (hl : ls[i.val]? = some (.val (.long v))) (w : WP k h cells slots pc' ls (.long v :: st)) : WP k h cells slots pc ls st := by
  subst hp; exact w.plain fun T A t q => XT.lloadN A K.hx rfl (K.dec hd) (arrGet hl) q
theorem WP.aload (K : Ok k l Z n0 rm bytes maxL y ret Q) {i : Nat} {v : Value} (pc' : Nat) (hd : decode bytes pc = .ok (.aload i, 2)) (hp : pc + 2 = pc') (hl : ls[i]? = some (.val (v))) (hv : v.isRef = true) (w : WP k h cells slots pc' ls (v :: st)) : WP k h cells slots pc ls st := by
  subst hp; exact w.plain fun T A t q => XS.aload A K.hx rfl (K.dec hd) (arrGet hl) hv q
theorem WP.aloadN (K : Ok k l Z n0 rm bytes maxL y ret Q) {i : Fin 4} {v : Value} (pc' : Nat) (hd : decode bytes pc = .ok (.aload_n i, 1)) (hp : pc + 1 = pc') (hl : ls[i.val]? = some (.val (v))) (hv : v.isRef = true) (w : WP k h cells slots pc' ls (v :: st)) : WP k h cells slots pc ls st := by
  subst hp; exact w.plain fun T A t q => XS.aloadN A K.hx rfl (K.dec hd) (arrGet hl) hv q
theorem WP.istore (K : Ok k l Z n0 rm bytes maxL y ret Q) {i : Nat} {v : Int32} (pc' : Nat) (ls' : List Slot) (hd : decode bytes pc = .ok (.istore i, 2)) (hp : pc + 2 = pc') (hl : storeLocals ls.toArray i (.int v) = some ls'.toArray) (w : WP k h cells slots pc' ls' st) : WP k h cells slots pc ls (.int v :: st) := by
  subst hp; exact w.plain fun T A t q => XS.istore A K.hx rfl (K.dec hd) rfl hl q
theorem WP.istoreN (K : Ok k l Z n0 rm bytes maxL y ret Q) {i : Fin 4} {v : Int32} (pc' : Nat) (ls' : List Slot) (hd : decode bytes pc = .ok (.istore_n i, 1)) (hp : pc + 1 = pc') (hl : storeLocals ls.toArray i.val (.int v) = some ls'.toArray) (w : WP k h cells slots pc' ls' st) : WP k h cells slots pc ls (.int v :: st) := by
  subst hp; exact w.plain fun T A t q => XS.istoreN A K.hx rfl (K.dec hd) rfl hl q
theorem WP.lstore (K : Ok k l Z n0 rm bytes maxL y ret Q) {i : Nat} {v : Int64} (pc' : Nat) (ls' : List Slot) (hd : decode bytes pc = .ok (.lstore i, 2)) (hp : pc + 2 = pc') (hl : storeLocals ls.toArray i (.long v) = some ls'.toArray) (w : WP k h cells slots pc' ls' st) : WP k h cells slots pc ls (.long v :: st) := by
  subst hp; exact w.plain fun T A t q => XT.lstore A K.hx rfl (K.dec hd) rfl hl q
theorem WP.lstoreN (K : Ok k l Z n0 rm bytes maxL y ret Q) {i : Fin 4} {v : Int64} (pc' : Nat) (ls' : List Slot) (hd : decode bytes pc = .ok (.lstore_n i, 1)) (hp : pc + 1 = pc') (hl : storeLocals ls.toArray i.val (.long v) = some ls'.toArray) (w : WP k h cells slots pc' ls' st) : WP k h cells slots pc ls (.long v :: st) := by
  subst hp; exact w.plain fun T A t q => XT.lstoreN A K.hx rfl (K.dec hd) rfl hl q
theorem WP.astore (K : Ok k l Z n0 rm bytes maxL y ret Q) {i : Nat} {v : Value} (pc' : Nat) (ls' : List Slot) (hd : decode bytes pc = .ok (.astore i, 2)) (hp : pc + 2 = pc') (hv : v.isRef = true) (hl : storeLocals ls.toArray i (v) = some ls'.toArray) (w : WP k h cells slots pc' ls' st) : WP k h cells slots pc ls (v :: st) := by
  subst hp; exact w.plain fun T A t q => XS.astore A K.hx rfl (K.dec hd) rfl hv hl q
theorem WP.astoreN (K : Ok k l Z n0 rm bytes maxL y ret Q) {i : Fin 4} {v : Value} (pc' : Nat) (ls' : List Slot) (hd : decode bytes pc = .ok (.astore_n i, 1)) (hp : pc + 1 = pc') (hv : v.isRef = true) (hl : storeLocals ls.toArray i.val (v) = some ls'.toArray) (w : WP k h cells slots pc' ls' st) : WP k h cells slots pc ls (v :: st) := by
  subst hp; exact w.plain fun T A t q => XS.astoreN A K.hx rfl (K.dec hd) rfl hv hl q
theorem WP.iconst (K : Ok k l Z n0 rm bytes maxL y ret Q) {i : Int} (v : Int32) (pc' : Nat) (hd : decode bytes pc = .ok (.iconst i, 1)) (hp : pc + 1 = pc') (hv : Int32.ofInt i = v) (w : WP k h cells slots pc' ls (.int v :: st)) : WP k h cells slots pc ls st := by
  subst hp; exact w.plain fun T A t q => XT.iconstV A K.hx rfl v (K.dec hd) hv q
theorem WP.bipush (K : Ok k l Z n0 rm bytes maxL y ret Q) {i : Int} (v : Int32) (pc' : Nat) (hd : decode bytes pc = .ok (.bipush i, 2)) (hp : pc + 2 = pc') (hv : (Int8.ofInt i).toInt32 = v) (w : WP k h cells slots pc' ls (.int v :: st)) : WP k h cells slots pc ls st := by
  subst hp; exact w.plain fun T A t q => XT.bipushV A K.hx rfl v (K.dec hd) hv q
theorem WP.sipush (K : Ok k l Z n0 rm bytes maxL y ret Q) {i : Int} (v : Int32) (pc' : Nat) (hd : decode bytes pc = .ok (.sipush i, 3)) (hp : pc + 3 = pc') (hv : (Int16.ofInt i).toInt32 = v) (w : WP k h cells slots pc' ls (.int v :: st)) : WP k h cells slots pc ls st := by
  subst hp; exact w.plain fun T A t q => XT.sipushV A K.hx rfl v (K.dec hd) hv q
theorem WP.lconst (K : Ok k l Z n0 rm bytes maxL y ret Q) {i : Fin 2} (v : Int64) (pc' : Nat) (hd : decode bytes pc = .ok (.lconst i, 1)) (hp : pc + 1 = pc') (hv : Int64.ofNat i = v) (w : WP k h cells slots pc' ls (.long v :: st)) : WP k h cells slots pc ls st := by
  subst hp; exact w.plain fun T A t q => XT.lconstV A K.hx rfl v (K.dec hd) hv q
theorem WP.aconstNull (K : Ok k l Z n0 rm bytes maxL y ret Q) (pc' : Nat) (hd : decode bytes pc = .ok (.aconst_null, 1)) (hp : pc + 1 = pc') (w : WP k h cells slots pc' ls (.null :: st)) : WP k h cells slots pc ls st := by
  subst hp; exact w.plain fun T A t q => XS.aconstNull A K.hx rfl (K.dec hd) q
theorem WP.iadd (K : Ok k l Z n0 rm bytes maxL y ret Q) {x : Int32} {z : Int32} (pc' : Nat) (hd : decode bytes pc = .ok (.iadd, 1)) (hp : pc + 1 = pc') (w : WP k h cells slots pc' ls (.int (x + z) :: st)) : WP k h cells slots pc ls (.int z :: .int x :: st) := by
  subst hp; exact w.plain fun T A t q => XS.iadd A K.hx rfl (K.dec hd) rfl q
theorem WP.isub (K : Ok k l Z n0 rm bytes maxL y ret Q) {x : Int32} {z : Int32} (pc' : Nat) (hd : decode bytes pc = .ok (.isub, 1)) (hp : pc + 1 = pc') (w : WP k h cells slots pc' ls (.int (x - z) :: st)) : WP k h cells slots pc ls (.int z :: .int x :: st) := by
  subst hp; exact w.plain fun T A t q => XS.isub A K.hx rfl (K.dec hd) rfl q
theorem WP.imul (K : Ok k l Z n0 rm bytes maxL y ret Q) {x : Int32} {z : Int32} (pc' : Nat) (hd : decode bytes pc = .ok (.imul, 1)) (hp : pc + 1 = pc') (w : WP k h cells slots pc' ls (.int (x * z) :: st)) : WP k h cells slots pc ls (.int z :: .int x :: st) := by
  subst hp; exact w.plain fun T A t q => XS.imul A K.hx rfl (K.dec hd) rfl q
theorem WP.iand (K : Ok k l Z n0 rm bytes maxL y ret Q) {x : Int32} {z : Int32} (pc' : Nat) (hd : decode bytes pc = .ok (.iand, 1)) (hp : pc + 1 = pc') (w : WP k h cells slots pc' ls (.int (x &&& z) :: st)) : WP k h cells slots pc ls (.int z :: .int x :: st) := by
  subst hp; exact w.plain fun T A t q => XS.iand A K.hx rfl (K.dec hd) rfl q
theorem WP.ior (K : Ok k l Z n0 rm bytes maxL y ret Q) {x : Int32} {z : Int32} (pc' : Nat) (hd : decode bytes pc = .ok (.ior, 1)) (hp : pc + 1 = pc') (w : WP k h cells slots pc' ls (.int (x ||| z) :: st)) : WP k h cells slots pc ls (.int z :: .int x :: st) := by
  subst hp; exact w.plain fun T A t q => XT.ior A K.hx rfl (K.dec hd) rfl q
theorem WP.ixor (K : Ok k l Z n0 rm bytes maxL y ret Q) {x : Int32} {z : Int32} (pc' : Nat) (hd : decode bytes pc = .ok (.ixor, 1)) (hp : pc + 1 = pc') (w : WP k h cells slots pc' ls (.int (x ^^^ z) :: st)) : WP k h cells slots pc ls (.int z :: .int x :: st) := by
  subst hp; exact w.plain fun T A t q => XT.ixor A K.hx rfl (K.dec hd) rfl q
theorem WP.ishl (K : Ok k l Z n0 rm bytes maxL y ret Q) {x : Int32} {z : Int32} (pc' : Nat) (hd : decode bytes pc = .ok (.ishl, 1)) (hp : pc + 1 = pc') (w : WP k h cells slots pc' ls (.int (x <<< (z &&& 31)) :: st)) : WP k h cells slots pc ls (.int z :: .int x :: st) := by
  subst hp; exact w.plain fun T A t q => XT.ishl A K.hx rfl (K.dec hd) rfl q
theorem WP.ishr (K : Ok k l Z n0 rm bytes maxL y ret Q) {x : Int32} {z : Int32} (pc' : Nat) (hd : decode bytes pc = .ok (.ishr, 1)) (hp : pc + 1 = pc') (w : WP k h cells slots pc' ls (.int (x >>> (z &&& 31)) :: st)) : WP k h cells slots pc ls (.int z :: .int x :: st) := by
  subst hp; exact w.plain fun T A t q => XT.ishr A K.hx rfl (K.dec hd) rfl q
theorem WP.iushr (K : Ok k l Z n0 rm bytes maxL y ret Q) {x : Int32} {z : Int32} (pc' : Nat) (hd : decode bytes pc = .ok (.iushr, 1)) (hp : pc + 1 = pc') (w : WP k h cells slots pc' ls (.int (XT.ushr x z) :: st)) : WP k h cells slots pc ls (.int z :: .int x :: st) := by
  subst hp; exact w.plain fun T A t q => XT.iushr A K.hx rfl (K.dec hd) rfl q
theorem WP.ladd (K : Ok k l Z n0 rm bytes maxL y ret Q) {x : Int64} {z : Int64} (pc' : Nat) (hd : decode bytes pc = .ok (.ladd, 1)) (hp : pc + 1 = pc') (w : WP k h cells slots pc' ls (.long (x + z) :: st)) : WP k h cells slots pc ls (.long z :: .long x :: st) := by
  subst hp; exact w.plain fun T A t q => XT.ladd A K.hx rfl (K.dec hd) rfl q
theorem WP.lsub (K : Ok k l Z n0 rm bytes maxL y ret Q) {x : Int64} {z : Int64} (pc' : Nat) (hd : decode bytes pc = .ok (.lsub, 1)) (hp : pc + 1 = pc') (w : WP k h cells slots pc' ls (.long (x - z) :: st)) : WP k h cells slots pc ls (.long z :: .long x :: st) := by
  subst hp; exact w.plain fun T A t q => XT.lsub A K.hx rfl (K.dec hd) rfl q
theorem WP.lmul (K : Ok k l Z n0 rm bytes maxL y ret Q) {x : Int64} {z : Int64} (pc' : Nat) (hd : decode bytes pc = .ok (.lmul, 1)) (hp : pc + 1 = pc') (w : WP k h cells slots pc' ls (.long (x * z) :: st)) : WP k h cells slots pc ls (.long z :: .long x :: st) := by
  subst hp; exact w.plain fun T A t q => XT.lmul A K.hx rfl (K.dec hd) rfl q
theorem WP.land (K : Ok k l Z n0 rm bytes maxL y ret Q) {x : Int64} {z : Int64} (pc' : Nat) (hd : decode bytes pc = .ok (.land, 1)) (hp : pc + 1 = pc') (w : WP k h cells slots pc' ls (.long (x &&& z) :: st)) : WP k h cells slots pc ls (.long z :: .long x :: st) := by
  subst hp; exact w.plain fun T A t q => XT.land A K.hx rfl (K.dec hd) rfl q
theorem WP.lor (K : Ok k l Z n0 rm bytes maxL y ret Q) {x : Int64} {z : Int64} (pc' : Nat) (hd : decode bytes pc = .ok (.lor, 1)) (hp : pc + 1 = pc') (w : WP k h cells slots pc' ls (.long (x ||| z) :: st)) : WP k h cells slots pc ls (.long z :: .long x :: st) := by
  subst hp; exact w.plain fun T A t q => XT.lor A K.hx rfl (K.dec hd) rfl q
theorem WP.lxor (K : Ok k l Z n0 rm bytes maxL y ret Q) {x : Int64} {z : Int64} (pc' : Nat) (hd : decode bytes pc = .ok (.lxor, 1)) (hp : pc + 1 = pc') (w : WP k h cells slots pc' ls (.long (x ^^^ z) :: st)) : WP k h cells slots pc ls (.long z :: .long x :: st) := by
  subst hp; exact w.plain fun T A t q => XT.lxor A K.hx rfl (K.dec hd) rfl q
theorem WP.lshl (K : Ok k l Z n0 rm bytes maxL y ret Q) {x : Int64} {z : Int32} (pc' : Nat) (hd : decode bytes pc = .ok (.lshl, 1)) (hp : pc + 1 = pc') (w : WP k h cells slots pc' ls (.long (x <<< (z.toInt64 &&& 63)) :: st)) : WP k h cells slots pc ls (.int z :: .long x :: st) := by
  subst hp; exact w.plain fun T A t q => XT.lshl A K.hx rfl (K.dec hd) rfl q
theorem WP.lshr (K : Ok k l Z n0 rm bytes maxL y ret Q) {x : Int64} {z : Int32} (pc' : Nat) (hd : decode bytes pc = .ok (.lshr, 1)) (hp : pc + 1 = pc') (w : WP k h cells slots pc' ls (.long (x >>> (z.toInt64 &&& 63)) :: st)) : WP k h cells slots pc ls (.int z :: .long x :: st) := by
  subst hp; exact w.plain fun T A t q => XT.lshr A K.hx rfl (K.dec hd) rfl q
theorem WP.lushr (K : Ok k l Z n0 rm bytes maxL y ret Q) {x : Int64} {z : Int32} (pc' : Nat) (hd : decode bytes pc = .ok (.lushr, 1)) (hp : pc + 1 = pc') (w : WP k h cells slots pc' ls (.long (XT.ushrL x z) :: st)) : WP k h cells slots pc ls (.int z :: .long x :: st) := by
  subst hp; exact w.plain fun T A t q => XT.lushr A K.hx rfl (K.dec hd) rfl q
theorem WP.lcmp (K : Ok k l Z n0 rm bytes maxL y ret Q) {x : Int64} {z : Int64} (pc' : Nat) (hd : decode bytes pc = .ok (.lcmp, 1)) (hp : pc + 1 = pc') (w : WP k h cells slots pc' ls (.int (XT.cmpL x z) :: st)) : WP k h cells slots pc ls (.long z :: .long x :: st) := by
  subst hp; exact w.plain fun T A t q => XT.lcmp A K.hx rfl (K.dec hd) rfl q
theorem WP.idiv (K : Ok k l Z n0 rm bytes maxL y ret Q) {x z : Int32} (pc' : Nat) (hd : decode bytes pc = .ok (.idiv, 1)) (hp : pc + 1 = pc') (hz : z ≠ 0) (w : WP k h cells slots pc' ls (.int (x / z) :: st)) : WP k h cells slots pc ls (.int z :: .int x :: st) := by
  subst hp; exact w.plain fun T A t q => XS.idiv A K.hx rfl (K.dec hd) rfl hz q
theorem WP.irem (K : Ok k l Z n0 rm bytes maxL y ret Q) {x z : Int32} (pc' : Nat) (hd : decode bytes pc = .ok (.irem, 1)) (hp : pc + 1 = pc') (hz : z ≠ 0) (w : WP k h cells slots pc' ls (.int (x % z) :: st)) : WP k h cells slots pc ls (.int z :: .int x :: st) := by
  subst hp; rw [← irem_eq_mod] at w; exact w.plain fun T A t q => XS.irem A K.hx rfl (K.dec hd) rfl hz q
theorem WP.ineg (K : Ok k l Z n0 rm bytes maxL y ret Q) {x : Int32} (pc' : Nat) (hd : decode bytes pc = .ok (.ineg, 1)) (hp : pc + 1 = pc') (w : WP k h cells slots pc' ls (.int (-x) :: st)) : WP k h cells slots pc ls (.int x :: st) := by
  subst hp; exact w.plain fun T A t q => XS.ineg A K.hx rfl (K.dec hd) rfl q
theorem WP.lneg (K : Ok k l Z n0 rm bytes maxL y ret Q) {x : Int64} (pc' : Nat) (hd : decode bytes pc = .ok (.lneg, 1)) (hp : pc + 1 = pc') (w : WP k h cells slots pc' ls (.long (-x) :: st)) : WP k h cells slots pc ls (.long x :: st) := by
  subst hp; exact w.plain fun T A t q => XT.lneg A K.hx rfl (K.dec hd) rfl q
theorem WP.i2l (K : Ok k l Z n0 rm bytes maxL y ret Q) {x : Int32} (pc' : Nat) (hd : decode bytes pc = .ok (.i2l, 1)) (hp : pc + 1 = pc') (w : WP k h cells slots pc' ls (.long x.toInt64 :: st)) : WP k h cells slots pc ls (.int x :: st) := by
  subst hp; exact w.plain fun T A t q => XT.i2l A K.hx rfl (K.dec hd) rfl q
theorem WP.l2i (K : Ok k l Z n0 rm bytes maxL y ret Q) {x : Int64} (pc' : Nat) (hd : decode bytes pc = .ok (.l2i, 1)) (hp : pc + 1 = pc') (w : WP k h cells slots pc' ls (.int x.toInt32 :: st)) : WP k h cells slots pc ls (.long x :: st) := by
  subst hp; exact w.plain fun T A t q => XT.l2i A K.hx rfl (K.dec hd) rfl q
theorem WP.i2b (K : Ok k l Z n0 rm bytes maxL y ret Q) {x : Int32} (pc' : Nat) (hd : decode bytes pc = .ok (.i2b, 1)) (hp : pc + 1 = pc') (w : WP k h cells slots pc' ls (.int x.toInt8.toInt32 :: st)) : WP k h cells slots pc ls (.int x :: st) := by
  subst hp; exact w.plain fun T A t q => XT.i2b A K.hx rfl (K.dec hd) rfl q
theorem WP.i2c (K : Ok k l Z n0 rm bytes maxL y ret Q) {x : Int32} (pc' : Nat) (hd : decode bytes pc = .ok (.i2c, 1)) (hp : pc + 1 = pc') (w : WP k h cells slots pc' ls (.int x.toUInt32.toUInt16.toUInt32.toInt32 :: st)) : WP k h cells slots pc ls (.int x :: st) := by
  subst hp; exact w.plain fun T A t q => XT.i2c A K.hx rfl (K.dec hd) rfl q
theorem WP.i2s (K : Ok k l Z n0 rm bytes maxL y ret Q) {x : Int32} (pc' : Nat) (hd : decode bytes pc = .ok (.i2s, 1)) (hp : pc + 1 = pc') (w : WP k h cells slots pc' ls (.int x.toInt16.toInt32 :: st)) : WP k h cells slots pc ls (.int x :: st) := by
  subst hp; exact w.plain fun T A t q => XT.i2s A K.hx rfl (K.dec hd) rfl q
theorem WP.dup (K : Ok k l Z n0 rm bytes maxL y ret Q) {x : Value} (pc' : Nat) (hd : decode bytes pc = .ok (.dup, 1)) (hp : pc + 1 = pc') (hc : x.category = 1) (w : WP k h cells slots pc' ls (x :: x :: st)) : WP k h cells slots pc ls (x :: st) := by
  subst hp; exact w.plain fun T A t q => XS.dup A K.hx rfl (K.dec hd) rfl hc q
theorem WP.pop (K : Ok k l Z n0 rm bytes maxL y ret Q) {x : Value} (pc' : Nat) (hd : decode bytes pc = .ok (.pop, 1)) (hp : pc + 1 = pc') (hc : x.category = 1) (w : WP k h cells slots pc' ls st) : WP k h cells slots pc ls (x :: st) := by
  subst hp; exact w.plain fun T A t q => XT.pop A K.hx rfl (K.dec hd) rfl hc q
theorem WP.dupX1 (K : Ok k l Z n0 rm bytes maxL y ret Q) {x z : Value} (pc' : Nat) (hd : decode bytes pc = .ok (.dup_x1, 1)) (hp : pc + 1 = pc') (hc : x.category = 1) (hc' : z.category = 1) (w : WP k h cells slots pc' ls (x :: z :: x :: st)) : WP k h cells slots pc ls (x :: z :: st) := by
  subst hp; exact w.plain fun T A t q => XT.dupX1 A K.hx rfl (K.dec hd) rfl hc hc' q
theorem WP.dup2 (K : Ok k l Z n0 rm bytes maxL y ret Q) {x z : Value} (pc' : Nat) (hd : decode bytes pc = .ok (.dup2, 1)) (hp : pc + 1 = pc') (hc : x.category = 1) (hc' : z.category = 1) (w : WP k h cells slots pc' ls (x :: z :: x :: z :: st)) : WP k h cells slots pc ls (x :: z :: st) := by
  subst hp; exact w.plain fun T A t q => XT.dup2 A K.hx rfl (K.dec hd) rfl hc hc' q
theorem WP.dup2L (K : Ok k l Z n0 rm bytes maxL y ret Q) {x : Int64} (pc' : Nat) (hd : decode bytes pc = .ok (.dup2, 1)) (hp : pc + 1 = pc') (w : WP k h cells slots pc' ls (.long x :: .long x :: st)) : WP k h cells slots pc ls (.long x :: st) := by
  subst hp; exact w.plain fun T A t q => XT.dup2L A K.hx rfl (K.dec hd) rfl q
theorem WP.iinc (K : Ok k l Z n0 rm bytes maxL y ret Q) {i : Nat} {cst : Int} {x : Int32} (v : Int32) (pc' : Nat) (ls' : List Slot) (hd : decode bytes pc = .ok (.iinc i cst, 3)) (hp : pc + 3 = pc') (hv : Int32.ofInt cst = v) (hl : ls[i]? = some (.val (.int x))) (hl' : storeLocals ls.toArray i (.int (x + v)) = some ls'.toArray) (w : WP k h cells slots pc' ls' st) : WP k h cells slots pc ls st := by
  subst hp; exact w.plain fun T A t q => XT.iincV A K.hx rfl v (K.dec hd) hv (arrGet hl) hl' q
theorem WP.goto (K : Ok k l Z n0 rm bytes maxL y ret Q) {o : Int} (pc' : Nat) (hd : decode bytes pc = .ok (.goto o, 3)) (hp : (pc : Int) + o = pc') (w : WP k h cells slots pc' ls st) : WP k h cells slots pc ls st :=
  w.plain fun T A t q => XS.goto A K.hx rfl (pc0 := pc) (pc' := pc') rfl (K.dec hd) (by omega) (by omega) q
theorem WP.icmp (K : Ok k l Z n0 rm bytes maxL y ret Q) {cd : ClassFile.Cond} {o : Int} {x z : Int32} (tp fp : Nat) (hd : decode bytes pc = .ok (.if_icmp cd o, 3)) (ht : (pc : Int) + o = tp) (hf : pc + 3 = fp)
    (wt : if_icmp.holds cd x z = true → WP k h cells slots tp ls st) (wf : if_icmp.holds cd x z = false → WP k h cells slots fp ls st) : WP k h cells slots pc ls (.int z :: .int x :: st) := by
  subst hf
  cases hh : if_icmp.holds cd x z
  · exact (wf hh).plain fun T A t q => XS.icmpNo A K.hx rfl (K.dec hd) rfl hh q
  · exact (wt hh).plain fun T A t q => XS.icmpYes A K.hx rfl (pc0 := pc) (pc' := tp) rfl (K.dec hd) rfl hh (by omega) (by omega) q
theorem WP.if0 (K : Ok k l Z n0 rm bytes maxL y ret Q) {cd : ClassFile.Cond} {o : Int} {x : Int32} (tp fp : Nat) (hd : decode bytes pc = .ok (.ifCond cd o, 3)) (ht : (pc : Int) + o = tp) (hf : pc + 3 = fp)
    (wt : ifCond.holds cd x = true → WP k h cells slots tp ls st) (wf : ifCond.holds cd x = false → WP k h cells slots fp ls st) : WP k h cells slots pc ls (.int x :: st) := by
  subst hf
  cases hh : ifCond.holds cd x
  · exact (wf hh).plain fun T A t q => XS.ifNo A K.hx rfl (K.dec hd) rfl hh q
  · exact (wt hh).plain fun T A t q => XS.ifYes A K.hx rfl (pc0 := pc) (pc' := tp) rfl (K.dec hd) rfl hh (by omega) (by omega) q
theorem h_lt {x z : Int32} : if_icmp.holds .lt x z = decide (x.toInt < z.toInt) := by simp [if_icmp.holds, Int32.lt_iff_toInt_lt]
theorem h_ge {x z : Int32} : if_icmp.holds .ge x z = decide (z.toInt ≤ x.toInt) := by simp [if_icmp.holds, Int32.le_iff_toInt_le]
theorem h_gt {x z : Int32} : if_icmp.holds .gt x z = decide (z.toInt < x.toInt) := by simp [if_icmp.holds, Int32.lt_iff_toInt_lt]
theorem h_le {x z : Int32} : if_icmp.holds .le x z = decide (x.toInt ≤ z.toInt) := by simp [if_icmp.holds, Int32.le_iff_toInt_le]
theorem h_eq {x z : Int32} : if_icmp.holds .eq x z = decide (x.toInt = z.toInt) := by
  rw [Bool.eq_iff_iff, decide_eq_true_iff, Int32.toInt_inj]; simp [if_icmp.holds]
theorem h_ne {x z : Int32} : if_icmp.holds .ne x z = decide (x.toInt ≠ z.toInt) := by
  by_cases q : x = z <;> simp [if_icmp.holds, Int32.toInt_inj, q]
theorem WP.icmp_lt (K : Ok k l Z n0 rm bytes maxL y ret Q) {o : Int} {x z : Int32} (tp fp : Nat) (hd : decode bytes pc = .ok (.if_icmp .lt o, 3)) (ht : (pc : Int) + o = tp) (hf : pc + 3 = fp)
    (wt : x.toInt < z.toInt → WP k h cells slots tp ls st) (wf : z.toInt ≤ x.toInt → WP k h cells slots fp ls st) : WP k h cells slots pc ls (.int z :: .int x :: st) :=
  WP.icmp K tp fp hd ht hf (fun q => wt (by rw [h_lt] at q; exact of_decide_eq_true q)) (fun q => wf (by rw [h_lt] at q; have q := of_decide_eq_false q; omega))
theorem WP.if_lt (K : Ok k l Z n0 rm bytes maxL y ret Q) {o : Int} {x : Int32} (tp fp : Nat) (hd : decode bytes pc = .ok (.ifCond .lt o, 3)) (ht : (pc : Int) + o = tp) (hf : pc + 3 = fp)
    (wt : x.toInt < 0 → WP k h cells slots tp ls st) (wf : 0 ≤ x.toInt → WP k h cells slots fp ls st) : WP k h cells slots pc ls (.int x :: st) :=
  WP.if0 K tp fp hd ht hf (fun q => wt (by rw [RoadKit.if0, h_lt] at q; exact of_decide_eq_true q)) (fun q => wf (by rw [RoadKit.if0, h_lt] at q; have q := of_decide_eq_false q; rw [show (0 : Int32).toInt = 0 from rfl] at q; omega))
theorem WP.ifl_lt (K : Ok k l Z n0 rm bytes maxL y ret Q) {o : Int} {x z : Int64} (tp fp : Nat) (hd : decode bytes pc = .ok (.ifCond .lt o, 3)) (ht : (pc : Int) + o = tp) (hf : pc + 3 = fp)
    (wt : x.toInt < z.toInt → WP k h cells slots tp ls st) (wf : z.toInt ≤ x.toInt → WP k h cells slots fp ls st) : WP k h cells slots pc ls (.int (XT.cmpL x z) :: st) := by
  refine WP.if0 K tp fp hd ht hf (fun q => ?_) (fun q => ?_)
  · refine wt ?_
    false_or_by_contra
    rename_i c
    rw [XT.ll_lt_f (by simp only [Int64.lt_iff_toInt_lt, ← Int64.toInt_inj]; omega)] at q; cases q
  · refine wf ?_
    false_or_by_contra
    rename_i c
    rw [XT.ll_lt_t (by simp only [Int64.lt_iff_toInt_lt, ← Int64.toInt_inj]; omega)] at q; cases q
theorem WP.icmp_ge (K : Ok k l Z n0 rm bytes maxL y ret Q) {o : Int} {x z : Int32} (tp fp : Nat) (hd : decode bytes pc = .ok (.if_icmp .ge o, 3)) (ht : (pc : Int) + o = tp) (hf : pc + 3 = fp)
    (wt : z.toInt ≤ x.toInt → WP k h cells slots tp ls st) (wf : x.toInt < z.toInt → WP k h cells slots fp ls st) : WP k h cells slots pc ls (.int z :: .int x :: st) :=
  WP.icmp K tp fp hd ht hf (fun q => wt (by rw [h_ge] at q; exact of_decide_eq_true q)) (fun q => wf (by rw [h_ge] at q; have q := of_decide_eq_false q; omega))
theorem WP.if_ge (K : Ok k l Z n0 rm bytes maxL y ret Q) {o : Int} {x : Int32} (tp fp : Nat) (hd : decode bytes pc = .ok (.ifCond .ge o, 3)) (ht : (pc : Int) + o = tp) (hf : pc + 3 = fp)
    (wt : 0 ≤ x.toInt → WP k h cells slots tp ls st) (wf : x.toInt < 0 → WP k h cells slots fp ls st) : WP k h cells slots pc ls (.int x :: st) :=
  WP.if0 K tp fp hd ht hf (fun q => wt (by rw [RoadKit.if0, h_ge] at q; exact of_decide_eq_true q)) (fun q => wf (by rw [RoadKit.if0, h_ge] at q; have q := of_decide_eq_false q; rw [show (0 : Int32).toInt = 0 from rfl] at q; omega))
theorem WP.ifl_ge (K : Ok k l Z n0 rm bytes maxL y ret Q) {o : Int} {x z : Int64} (tp fp : Nat) (hd : decode bytes pc = .ok (.ifCond .ge o, 3)) (ht : (pc : Int) + o = tp) (hf : pc + 3 = fp)
    (wt : z.toInt ≤ x.toInt → WP k h cells slots tp ls st) (wf : x.toInt < z.toInt → WP k h cells slots fp ls st) : WP k h cells slots pc ls (.int (XT.cmpL x z) :: st) := by
  refine WP.if0 K tp fp hd ht hf (fun q => ?_) (fun q => ?_)
  · refine wt ?_
    false_or_by_contra
    rename_i c
    rw [XT.ll_ge_f (by simp only [Int64.lt_iff_toInt_lt, ← Int64.toInt_inj]; omega)] at q; cases q
  · refine wf ?_
    false_or_by_contra
    rename_i c
    rw [XT.ll_ge_t (by simp only [Int64.lt_iff_toInt_lt, ← Int64.toInt_inj]; omega)] at q; cases q
theorem WP.icmp_gt (K : Ok k l Z n0 rm bytes maxL y ret Q) {o : Int} {x z : Int32} (tp fp : Nat) (hd : decode bytes pc = .ok (.if_icmp .gt o, 3)) (ht : (pc : Int) + o = tp) (hf : pc + 3 = fp)
    (wt : z.toInt < x.toInt → WP k h cells slots tp ls st) (wf : x.toInt ≤ z.toInt → WP k h cells slots fp ls st) : WP k h cells slots pc ls (.int z :: .int x :: st) :=
  WP.icmp K tp fp hd ht hf (fun q => wt (by rw [h_gt] at q; exact of_decide_eq_true q)) (fun q => wf (by rw [h_gt] at q; have q := of_decide_eq_false q; omega))
theorem WP.if_gt (K : Ok k l Z n0 rm bytes maxL y ret Q) {o : Int} {x : Int32} (tp fp : Nat) (hd : decode bytes pc = .ok (.ifCond .gt o, 3)) (ht : (pc : Int) + o = tp) (hf : pc + 3 = fp)
    (wt : 0 < x.toInt → WP k h cells slots tp ls st) (wf : x.toInt ≤ 0 → WP k h cells slots fp ls st) : WP k h cells slots pc ls (.int x :: st) :=
  WP.if0 K tp fp hd ht hf (fun q => wt (by rw [RoadKit.if0, h_gt] at q; exact of_decide_eq_true q)) (fun q => wf (by rw [RoadKit.if0, h_gt] at q; have q := of_decide_eq_false q; rw [show (0 : Int32).toInt = 0 from rfl] at q; omega))
theorem WP.ifl_gt (K : Ok k l Z n0 rm bytes maxL y ret Q) {o : Int} {x z : Int64} (tp fp : Nat) (hd : decode bytes pc = .ok (.ifCond .gt o, 3)) (ht : (pc : Int) + o = tp) (hf : pc + 3 = fp)
    (wt : z.toInt < x.toInt → WP k h cells slots tp ls st) (wf : x.toInt ≤ z.toInt → WP k h cells slots fp ls st) : WP k h cells slots pc ls (.int (XT.cmpL x z) :: st) := by
  refine WP.if0 K tp fp hd ht hf (fun q => ?_) (fun q => ?_)
  · refine wt ?_
    false_or_by_contra
    rename_i c
    rw [XT.ll_gt_f (by simp only [Int64.lt_iff_toInt_lt, ← Int64.toInt_inj]; omega)] at q; cases q
  · refine wf ?_
    false_or_by_contra
    rename_i c
    rw [XT.ll_gt_t (by simp only [Int64.lt_iff_toInt_lt, ← Int64.toInt_inj]; omega)] at q; cases q
theorem WP.icmp_le (K : Ok k l Z n0 rm bytes maxL y ret Q) {o : Int} {x z : Int32} (tp fp : Nat) (hd : decode bytes pc = .ok (.if_icmp .le o, 3)) (ht : (pc : Int) + o = tp) (hf : pc + 3 = fp)
    (wt : x.toInt ≤ z.toInt → WP k h cells slots tp ls st) (wf : z.toInt < x.toInt → WP k h cells slots fp ls st) : WP k h cells slots pc ls (.int z :: .int x :: st) :=
  WP.icmp K tp fp hd ht hf (fun q => wt (by rw [h_le] at q; exact of_decide_eq_true q)) (fun q => wf (by rw [h_le] at q; have q := of_decide_eq_false q; omega))
theorem WP.if_le (K : Ok k l Z n0 rm bytes maxL y ret Q) {o : Int} {x : Int32} (tp fp : Nat) (hd : decode bytes pc = .ok (.ifCond .le o, 3)) (ht : (pc : Int) + o = tp) (hf : pc + 3 = fp)
    (wt : x.toInt ≤ 0 → WP k h cells slots tp ls st) (wf : 0 < x.toInt → WP k h cells slots fp ls st) : WP k h cells slots pc ls (.int x :: st) :=
  WP.if0 K tp fp hd ht hf (fun q => wt (by rw [RoadKit.if0, h_le] at q; exact of_decide_eq_true q)) (fun q => wf (by rw [RoadKit.if0, h_le] at q; have q := of_decide_eq_false q; rw [show (0 : Int32).toInt = 0 from rfl] at q; omega))
theorem WP.ifl_le (K : Ok k l Z n0 rm bytes maxL y ret Q) {o : Int} {x z : Int64} (tp fp : Nat) (hd : decode bytes pc = .ok (.ifCond .le o, 3)) (ht : (pc : Int) + o = tp) (hf : pc + 3 = fp)
    (wt : x.toInt ≤ z.toInt → WP k h cells slots tp ls st) (wf : z.toInt < x.toInt → WP k h cells slots fp ls st) : WP k h cells slots pc ls (.int (XT.cmpL x z) :: st) := by
  refine WP.if0 K tp fp hd ht hf (fun q => ?_) (fun q => ?_)
  · refine wt ?_
    false_or_by_contra
    rename_i c
    rw [XT.ll_le_f (by simp only [Int64.lt_iff_toInt_lt, ← Int64.toInt_inj]; omega)] at q; cases q
  · refine wf ?_
    false_or_by_contra
    rename_i c
    rw [XT.ll_le_t (by simp only [Int64.lt_iff_toInt_lt, ← Int64.toInt_inj]; omega)] at q; cases q
theorem WP.icmp_eq (K : Ok k l Z n0 rm bytes maxL y ret Q) {o : Int} {x z : Int32} (tp fp : Nat) (hd : decode bytes pc = .ok (.if_icmp .eq o, 3)) (ht : (pc : Int) + o = tp) (hf : pc + 3 = fp)
    (wt : x.toInt = z.toInt → WP k h cells slots tp ls st) (wf : x.toInt ≠ z.toInt → WP k h cells slots fp ls st) : WP k h cells slots pc ls (.int z :: .int x :: st) :=
  WP.icmp K tp fp hd ht hf (fun q => wt (by rw [h_eq] at q; exact of_decide_eq_true q)) (fun q => wf (by rw [h_eq] at q; have q := of_decide_eq_false q; omega))
theorem WP.if_eq (K : Ok k l Z n0 rm bytes maxL y ret Q) {o : Int} {x : Int32} (tp fp : Nat) (hd : decode bytes pc = .ok (.ifCond .eq o, 3)) (ht : (pc : Int) + o = tp) (hf : pc + 3 = fp)
    (wt : x.toInt = 0 → WP k h cells slots tp ls st) (wf : x.toInt ≠ 0 → WP k h cells slots fp ls st) : WP k h cells slots pc ls (.int x :: st) :=
  WP.if0 K tp fp hd ht hf (fun q => wt (by rw [RoadKit.if0, h_eq] at q; exact of_decide_eq_true q)) (fun q => wf (by rw [RoadKit.if0, h_eq] at q; have q := of_decide_eq_false q; rw [show (0 : Int32).toInt = 0 from rfl] at q; omega))
theorem WP.ifl_eq (K : Ok k l Z n0 rm bytes maxL y ret Q) {o : Int} {x z : Int64} (tp fp : Nat) (hd : decode bytes pc = .ok (.ifCond .eq o, 3)) (ht : (pc : Int) + o = tp) (hf : pc + 3 = fp)
    (wt : x.toInt = z.toInt → WP k h cells slots tp ls st) (wf : x.toInt ≠ z.toInt → WP k h cells slots fp ls st) : WP k h cells slots pc ls (.int (XT.cmpL x z) :: st) := by
  refine WP.if0 K tp fp hd ht hf (fun q => ?_) (fun q => ?_)
  · refine wt ?_
    false_or_by_contra
    rename_i c
    rw [XT.ll_eq_f (by simp only [Int64.lt_iff_toInt_lt, ← Int64.toInt_inj]; omega)] at q; cases q
  · refine wf ?_
    false_or_by_contra
    rename_i c
    rw [XT.ll_eq_t (by simp only [Int64.lt_iff_toInt_lt, ← Int64.toInt_inj]; omega)] at q; cases q
theorem WP.icmp_ne (K : Ok k l Z n0 rm bytes maxL y ret Q) {o : Int} {x z : Int32} (tp fp : Nat) (hd : decode bytes pc = .ok (.if_icmp .ne o, 3)) (ht : (pc : Int) + o = tp) (hf : pc + 3 = fp)
    (wt : x.toInt ≠ z.toInt → WP k h cells slots tp ls st) (wf : x.toInt = z.toInt → WP k h cells slots fp ls st) : WP k h cells slots pc ls (.int z :: .int x :: st) :=
  WP.icmp K tp fp hd ht hf (fun q => wt (by rw [h_ne] at q; exact of_decide_eq_true q)) (fun q => wf (by rw [h_ne] at q; have q := of_decide_eq_false q; omega))
theorem WP.if_ne (K : Ok k l Z n0 rm bytes maxL y ret Q) {o : Int} {x : Int32} (tp fp : Nat) (hd : decode bytes pc = .ok (.ifCond .ne o, 3)) (ht : (pc : Int) + o = tp) (hf : pc + 3 = fp)
    (wt : x.toInt ≠ 0 → WP k h cells slots tp ls st) (wf : x.toInt = 0 → WP k h cells slots fp ls st) : WP k h cells slots pc ls (.int x :: st) :=
  WP.if0 K tp fp hd ht hf (fun q => wt (by rw [RoadKit.if0, h_ne] at q; exact of_decide_eq_true q)) (fun q => wf (by rw [RoadKit.if0, h_ne] at q; have q := of_decide_eq_false q; rw [show (0 : Int32).toInt = 0 from rfl] at q; omega))
theorem WP.ifl_ne (K : Ok k l Z n0 rm bytes maxL y ret Q) {o : Int} {x z : Int64} (tp fp : Nat) (hd : decode bytes pc = .ok (.ifCond .ne o, 3)) (ht : (pc : Int) + o = tp) (hf : pc + 3 = fp)
    (wt : x.toInt ≠ z.toInt → WP k h cells slots tp ls st) (wf : x.toInt = z.toInt → WP k h cells slots fp ls st) : WP k h cells slots pc ls (.int (XT.cmpL x z) :: st) := by
  refine WP.if0 K tp fp hd ht hf (fun q => ?_) (fun q => ?_)
  · refine wt ?_
    false_or_by_contra
    rename_i c
    rw [XT.ll_ne_f (by simp only [Int64.lt_iff_toInt_lt, ← Int64.toInt_inj]; omega)] at q; cases q
  · refine wf ?_
    false_or_by_contra
    rename_i c
    rw [XT.ll_ne_t (by simp only [Int64.lt_iff_toInt_lt, ← Int64.toInt_inj]; omega)] at q; cases q
theorem WP.ifnull_n (K : Ok k l Z n0 rm bytes maxL y ret Q) {o : Int} (tp : Nat) (hd : decode bytes pc = .ok (.ifnull o, 3)) (ht : (pc : Int) + o = tp) (w : WP k h cells slots tp ls st) : WP k h cells slots pc ls (.null :: st) :=
  w.plain fun T A t q => XS.ifnullYes A K.hx rfl (pc0 := pc) (pc' := tp) rfl (K.dec hd) rfl (by omega) (by omega) q
theorem WP.ifnull_r (K : Ok k l Z n0 rm bytes maxL y ret Q) {o : Int} {b : Addr} (fp : Nat) (hd : decode bytes pc = .ok (.ifnull o, 3)) (hf : pc + 3 = fp) (w : WP k h cells slots fp ls st) : WP k h cells slots pc ls (.ref b :: st) := by
  subst hf; exact w.plain fun T A t q => XS.ifnullNo A K.hx rfl (K.dec hd) rfl q
theorem WP.ifnonnull_r (K : Ok k l Z n0 rm bytes maxL y ret Q) {o : Int} {b : Addr} (tp : Nat) (hd : decode bytes pc = .ok (.ifnonnull o, 3)) (ht : (pc : Int) + o = tp) (w : WP k h cells slots tp ls st) : WP k h cells slots pc ls (.ref b :: st) :=
  w.plain fun T A t q => XT.ifnonnullYes A K.hx rfl (pc0 := pc) (pc' := tp) rfl (K.dec hd) rfl (by omega) (by omega) q
theorem WP.ifnonnull_n (K : Ok k l Z n0 rm bytes maxL y ret Q) {o : Int} (fp : Nat) (hd : decode bytes pc = .ok (.ifnonnull o, 3)) (hf : pc + 3 = fp) (w : WP k h cells slots fp ls st) : WP k h cells slots pc ls (.null :: st) := by
  subst hf; exact w.plain fun T A t q => XT.ifnonnullNo A K.hx rfl (K.dec hd) rfl q
theorem WP.acmp_eq (K : Ok k l Z n0 rm bytes maxL y ret Q) {o : Int} {x z : Value} (tp fp : Nat) (hd : decode bytes pc = .ok (.if_acmp .eq o, 3)) (ht : (pc : Int) + o = tp) (hf : pc + 3 = fp) (hx : x.isRef = true) (hz : z.isRef = true)
    (wt : x = z → WP k h cells slots tp ls st) (wf : x ≠ z → WP k h cells slots fp ls st) : WP k h cells slots pc ls (z :: x :: st) := by
  subst hf
  by_cases c : x = z
  · exact (wt c).plain fun T A t q => XT.acmpYes A K.hx rfl (pc0 := pc) (pc' := tp) rfl (K.dec hd) rfl hx hz (XT.aa_eq_t c) (by omega) (by omega) q
  · exact (wf c).plain fun T A t q => XT.acmpNo A K.hx rfl (K.dec hd) rfl hx hz (XT.aa_eq_f c) q
theorem WP.acmp_ne (K : Ok k l Z n0 rm bytes maxL y ret Q) {o : Int} {x z : Value} (tp fp : Nat) (hd : decode bytes pc = .ok (.if_acmp .ne o, 3)) (ht : (pc : Int) + o = tp) (hf : pc + 3 = fp) (hx : x.isRef = true) (hz : z.isRef = true)
    (wt : x ≠ z → WP k h cells slots tp ls st) (wf : x = z → WP k h cells slots fp ls st) : WP k h cells slots pc ls (z :: x :: st) := by
  subst hf
  by_cases c : x = z
  · exact (wf c).plain fun T A t q => XT.acmpNo A K.hx rfl (K.dec hd) rfl hx hz (XT.aa_ne_f c) q
  · exact (wt c).plain fun T A t q => XT.acmpYes A K.hx rfl (pc0 := pc) (pc' := tp) rfl (K.dec hd) rfl hx hz (XT.aa_ne_t c) (by omega) (by omega) q
theorem WP.tsw (K : Ok k l Z n0 rm bytes maxL y ret Q) {d lo hi : Int} {offs : Array Int} {len : Nat} {i : Int32} (dp : Nat) (hd : decode bytes pc = .ok (.tableswitch d lo hi offs, len)) (hdp : (pc : Int) + d = dp)
    (win : ∀ j o, i.toInt = lo + (j : Nat) → i.toInt ≤ hi → offs[j]? = some o → 0 ≤ (pc : Int) + o ∧ WP k h cells slots ((pc : Int) + o).toNat ls st) (hsz : hi - lo < offs.size) (wout : i.toInt < lo ∨ hi < i.toInt → WP k h cells slots dp ls st) : WP k h cells slots pc ls (.int i :: st) := by
  by_cases c : i.toInt < lo ∨ i.toInt > hi
  · exact (wout c).plain fun T A t q => XS.tswOut A K.hx rfl (pc0 := pc) (pc' := dp) rfl (K.dec hd) rfl c (by omega) (by omega) q
  · have hj : (i.toInt - lo).toNat < offs.size := by omega
    obtain ⟨h0, w⟩ := win (i.toInt - lo).toNat _ (by omega) (by omega) (Array.getElem?_eq_getElem hj)
    exact w.plain fun T A t q => XS.tswIn A K.hx rfl (pc0 := pc) rfl (K.dec hd) rfl c (Array.getElem?_eq_getElem hj) h0 rfl q
theorem WP.ldcI (K : Ok k l Z n0 rm bytes maxL y ret Q) {a0 : Array Value} {i : Nat} {v : Int32} (pc' : Nat) (hw : (Jvm.Cond.constant y.cls i v).before a0 Z = true) (hd : decode bytes pc = .ok (.ldc i, 2)) (hp : pc + 2 = pc') (w : WP k h cells slots pc' ls (.int v :: st)) : WP k h cells slots pc ls st := by
  subst hp; exact fun T locs X e N => End.back (fun t q => Stand.ldcI X K.hx K.hown (mvT K.hZ hw) rfl (K.dec hd) q) (w T locs X e N)
theorem WP.ldcWI (K : Ok k l Z n0 rm bytes maxL y ret Q) {a0 : Array Value} {i : Nat} {v : Int32} (pc' : Nat) (hw : (Jvm.Cond.constant y.cls i v).before a0 Z = true) (hd : decode bytes pc = .ok (.ldc_w i, 3)) (hp : pc + 3 = pc') (w : WP k h cells slots pc' ls (.int v :: st)) : WP k h cells slots pc ls st := by
  subst hp; exact fun T locs X e N => End.back (fun t q => Stand.ldcWI X K.hx K.hown (mvT K.hZ hw) rfl (K.dec hd) q) (w T locs X e N)
theorem WP.ldc2J (K : Ok k l Z n0 rm bytes maxL y ret Q) {a0 : Array Value} {i : Nat} {v : Int64} (pc' : Nat) (hw : (Jvm.Cond.constantLong y.cls i v).before a0 Z = true) (hd : decode bytes pc = .ok (.ldc2_w i, 3)) (hp : pc + 3 = pc') (w : WP k h cells slots pc' ls (.long v :: st)) : WP k h cells slots pc ls st := by
  subst hp; exact fun T locs X e N => End.back (fun t q => Stand.ldc2J X K.hx K.hown (mvT K.hZ hw) rfl (K.dec hd) q) (w T locs X e N)
theorem WP.leave (K : Ok k l Z n0 rm bytes maxL y ret Q) (v : Option Value) (hv : k.meth.sig.returnType = none → v = none) (hq : Q v h) (hc : cells ≤ rm.cells) (hs : slots ≤ rm.slots)
    (st' : ∀ (T : State) (locs : List Loc), k.St T locs cells slots → ∀ fs, (∀ (f : JFrame) (acts : List Action), f.method = k.m → f.locked = none → f.entered = [] → (doReturn k.e (T.setTop f) acts v).1 = T.setFrames fs) → Steps k.p.tables k.e k.below (T.setTop (mkF k.m pc ls.toArray st)) (T.setFrames fs)) : WP k h cells slots pc ls st := by
  intro T locs X e N
  obtain ⟨fs, hr, hrun, hended, hW, hsame⟩ := Stand.leave X (v := v) hv K.hlk
  have hq' : Q v (T.setFrames fs).heap := by show Q v T.heap; rw [e]; exact hq
  refine ⟨_, _, st' T locs X fs hr, hrun, hended, v, locs, rfl, ⟨by rw [K.hQ]; exact hq', N⟩, K.hfin v _ locs hq' ⟨⟨_, rfl⟩, hW, hsame.mono (by rw [K.hR]; exact hc) (by rw [K.hR]; exact hs)⟩⟩
theorem WP.retV (K : Ok k l Z n0 rm bytes maxL y ret Q) (hr : ret = none) (hd : decode bytes pc = .ok (.return_, 1)) (hq : Q none h) (hc : cells ≤ rm.cells) (hs : slots ≤ rm.slots) : WP k h cells slots pc ls [] :=
  WP.leave K none (fun _ => rfl) hq hc hs fun T locs X fs hl => Stand.returnOut X K.hx (K.hret.trans hr) (K.dec hd) hl
theorem WP.iret (K : Ok k l Z n0 rm bytes maxL y ret Q) {z : Int32} {t : FieldType} (hr : ret = some t) (ht : t = .int ∨ t = .boolean ∨ t = .byte ∨ t = .char ∨ t = .short) (hn : narrow t (.int z) = .int z) (hd : decode bytes pc = .ok (.ireturn, 1)) (hq : Q (some (.int z)) h) (hc : cells ≤ rm.cells) (hs : slots ≤ rm.slots) : WP k h cells slots pc ls (.int z :: st) :=
  WP.leave K (some (.int z)) (fun q => by rw [K.hret, hr] at q; cases q) hq hc hs fun T locs X fs hl => RoadKit.retOut X K.hx (K.hret.trans hr) hn (Or.inl ⟨rfl, ht, z, rfl⟩) (K.dec hd) hl
theorem WP.lret (K : Ok k l Z n0 rm bytes maxL y ret Q) {z : Int64} (hr : ret = some .long) (hd : decode bytes pc = .ok (.lreturn, 1)) (hq : Q (some (.long z)) h) (hc : cells ≤ rm.cells) (hs : slots ≤ rm.slots) : WP k h cells slots pc ls (.long z :: st) :=
  WP.leave K (some (.long z)) (fun q => by rw [K.hret, hr] at q; cases q) hq hc hs fun T locs X fs hl => RoadKit.retOut X K.hx (K.hret.trans hr) rfl (Or.inr (Or.inl ⟨rfl, rfl, z, rfl⟩)) (K.dec hd) hl
theorem WP.aret (K : Ok k l Z n0 rm bytes maxL y ret Q) {v : Value} {t : FieldType} (hr : ret = some t) (ht : t.isReference = true) (hn : narrow t v = v) (hv : v.isRef = true) (hd : decode bytes pc = .ok (.areturn, 1)) (hq : Q (some v) h) (hc : cells ≤ rm.cells) (hs : slots ≤ rm.slots) : WP k h cells slots pc ls (v :: st) :=
  WP.leave K (some v) (fun q => by rw [K.hret, hr] at q; cases q) hq hc hs fun T locs X fs hl => RoadKit.retOut X K.hx (K.hret.trans hr) hn (Or.inr (Or.inr (Or.inr (Or.inr ⟨rfl, ht, hv⟩)))) (K.dec hd) hl
theorem nar_bit {z : Int32} (q : z = 0 ∨ z = 1) : narrow .boolean (.int z) = .int z := by rcases q with rfl | rfl <;> rfl
end Plain
section HeapSteps
variable {k : Cx} {l : Launch} {Z : State} {n0 : Nat} {rm : Room} {bytes : ByteArray} {maxL : Nat} {y : MethodName} {ret : Option FieldType} {Q : Option Value → Heap → Prop} {h h' : Heap} {cells slots pc : Nat} {ls : List Slot} {st : List Value} {a0 : Array Value} {a b : Addr}
theorem ne_addr {a b : Nat} (h : a ≠ b) : @Ne Addr a b := h
theorem nm1 {a b : Nat} (h : a ≠ b) : a ∉ ([b] : List Addr) := by intro q; exact h (List.mem_singleton.mp q)
theorem nm2 {a b c : Nat} (h : a ≠ b ∧ a ≠ c) : a ∉ ([b, c] : List Addr) := by
  intro q
  rcases List.mem_cons.mp q with q | q
  · exact h.1 q
  · exact h.2 (List.mem_singleton.mp q)
theorem ks1 {b n : Nat} {ws : List Addr} (h : b ∈ ws ∨ n ≤ b) : ∀ x ∈ ([b] : List Addr), x ∈ ws ∨ n ≤ x := fun x hx => by cases List.mem_singleton.mp hx; exact h
theorem ks2 {b c n : Nat} {ws : List Addr} (h : b ∈ ws ∨ n ≤ b) (h' : c ∈ ws ∨ n ≤ c) : ∀ x ∈ ([b, c] : List Addr), x ∈ ws ∨ n ≤ x := fun x hx => by
  rcases List.mem_cons.mp hx with q | q
  · rw [q]; exact h
  · cases List.mem_singleton.mp q; exact h'
theorem ext_keep (E : Ext h h') (ws : List Addr) : Keep h h' ws := (Keep.refl h ws).ext E
theorem keep_sub {ws ws' : List Addr} (K : Keep h h' ws) (q : ∀ x ∈ ws, x ∈ ws') : Keep h h' ws' := ⟨K.1, fun x c e r => K.2.1 x c e fun z => r (q x z), K.2.2⟩
theorem keep_trans {h'' : Heap} {ws : List Addr} (K : Keep h h' ws) (K' : Keep h' h'' ws) : Keep h h'' ws := K.trans K' fun x hx => Or.inl hx
theorem WP.getfield (K : Ok k l Z n0 rm bytes maxL y ret Q) {i : Nat} {R0 O n d host : String} {v : Value} (pc' : Nat) (hw : (Jvm.Cond.fieldLink y.cls i R0 n d).before a0 Z = true ∨ (Jvm.Cond.fieldLinkNest y.cls i R0 n d host).before a0 Z = true) (via : Via Z R0 O n d) (F : Fld Z h a O n d v) (hd : decode bytes pc = .ok (.getfield i, 3)) (hp : pc + 3 = pc')
    (w : WP k h cells slots pc' ls (v :: st)) : WP k h cells slots pc ls (.ref a :: st) := by
  subst hp
  intro T locs X e N
  obtain ⟨T', X', e', stp⟩ := getF X K.hx K.hZ K.hown hw via e F (g := mkF k.m pc ls.toArray (.ref a :: st)) rfl rfl (K.dec hd)
  exact End.back stp (w T' locs X' e' N)
theorem WP.getstatic (K : Ok k l Z n0 rm bytes maxL y ret Q) {i : Nat} {R0 O n d : String} {v : Value} (pc' : Nat) (hw : (Jvm.Cond.fieldLink y.cls i R0 n d).before a0 Z = true) (via : Via Z R0 O n d) (F : Sta Z h O n d v) (hd : decode bytes pc = .ok (.getstatic i, 3)) (hp : pc + 3 = pc')
    (w : WP k h cells slots pc' ls (v :: st)) : WP k h cells slots pc ls st := by
  subst hp
  intro T locs X e N
  obtain ⟨T', X', e', stp⟩ := getS X K.hx K.hZ K.hown (host := "") hw via e F (g := mkF k.m pc ls.toArray st) rfl (K.dec hd)
  exact End.back stp (w T' locs X' e' N)
theorem WP.putfield (K : Ok k l Z n0 rm bytes maxL y ret Q) {i kk : Nat} {R0 O n d host C : String} {v old : Value} {ty : FieldType} (pc' : Nat) (hw : (Jvm.Cond.fieldLink y.cls i R0 n d).before a0 Z = true ∨ (Jvm.Cond.fieldLinkNest y.cls i R0 n d host).before a0 Z = true) (via : Via Z R0 O n d) (F : Fld Z h a O n d old) (E : Exa Z h a C)
    (L : (Jvm.Cond.lays C O n d).before a0 Z = true ∨ ((Jvm.Cond.laysFinal C O n d).before a0 Z = true ∧ y.cls = O ∧ y.name = "<init>")) (wi : (Jvm.Cond.instantiable C kk).before a0 Z = true)
    (hty : parseFieldDescriptor d = some ty) (hn : narrow ty v = v) (hf : fits ty v = true) (hd : decode bytes pc = .ok (.putfield i, 3)) (hp : pc + 3 = pc') (ha : n0 ≤ a)
    (w : ∀ h', Wr h h' a (RoadKit.slotOf Z O n d) v → WP k h' cells slots pc' ls st) : WP k h cells slots pc ls (v :: .ref a :: st) := by
  subst hp
  intro T locs X e N
  obtain ⟨T', h', X', e', W', stp⟩ := putF X K.hx K.hZ K.hown hw via e F E (L.imp id fun q => ⟨q.1, q.2.1, by rw [K.hnm]; exact q.2.2⟩) wi hty hn hf (g := mkF k.m pc ls.toArray (v :: .ref a :: st)) rfl rfl (K.dec hd)
  exact End.back stp (w h' W' T' _ X' e' (Fr.snoc X' N (by rw [K.hn0]; exact ha)))
theorem WP.new (K : Ok k l Z n0 rm bytes maxL y ret Q) {i n : Nat} {C : String} (pc' cells' slots' : Nat) (h1 : (Jvm.Cond.classLink y.cls i C).before a0 Z = true) (h2 : (Jvm.Cond.instantiable C n).before a0 Z = true) (h3 : (Jvm.Cond.initialized C).before a0 Z = true) (hd : decode bytes pc = .ok (.new i, 3)) (hp : pc + 3 = pc')
    (hc : cells + 1 = cells') (hs : slots + n = slots') (hc' : cells' ≤ rm.cells) (hs' : slots' ≤ rm.slots)
    (w : ∀ h' a, a = h.size → Ext h h' → Exa Z h' a C → (∀ {O nm d : String} {ty : FieldType}, Laid Z a0 C O nm d → parseFieldDescriptor d = some ty → Fld Z h' a O nm d (defaultValue ty)) → WP k h' cells' slots' pc' ls (.ref a :: st)) : WP k h cells slots pc ls st := by
  subst hp hc hs
  intro T locs X e N
  obtain ⟨T', h', X', e', E', A', D', -, stp⟩ := newO X K.hx K.hZ K.hown h1 h2 h3 e (g := mkF k.m pc ls.toArray st) rfl (K.dec hd) (by rw [K.hR]; exact hc') (by rw [K.hR]; exact hs')
  exact End.back stp (w h' _ rfl E' A' D' T' locs X' e' N)
/-- Object.<init> -/
theorem WP.initO (K : Ok k l Z n0 rm bytes maxL y ret Q) {i : Nat} (pc' W : Nat) (h1 : (Jvm.Cond.methodLink y.cls i Lib.objectInit).before a0 Z = true) (h2 : (Jvm.Cond.instanceMethod Lib.objectInit).before a0 Z = true) (h3 : (Jvm.Cond.code Lib.objectInit ⟨#[0xb1]⟩ 1 none).before a0 Z = true) (hd : decode bytes pc = .ok (.invokespecial i, 3)) (hp : pc + 3 = pc')
    (hsz : ls.length = maxL) (hf : 1 ≤ rm.frames) (hW : (st.map fun v => v.category).sum ≤ W) (hl : W + 12 ≤ rm.locals) (w : WP k h cells slots pc' ls st) : WP k h cells slots pc ls (.ref a :: st) := by
  subst hp
  intro T locs X e N
  obtain ⟨T', X', e', stp⟩ := RoadKit.initO X K.hx K.hZ K.hown h1 h2 h3 e (g := mkF k.m pc ls.toArray (.ref a :: st)) rfl (by rw [K.hml]; simpa using hsz) rfl (K.dec hd) (by rw [K.hR]; exact hf) (W := W) (by show 2 * 0 + _ ≤ _; omega) (by rw [K.hR]; exact hl)
  exact End.back stp (w T' locs X' e' N)
/-! arrays -/
def ArV (Z : State) (h : Heap) (a : Addr) (ty : FieldType) (vs : List Value) : Prop := ∃ c : Cell, Arr Z h a c ty ∧ c.slots.toList = vs ∧ vs.length < 2 ^ 31 ∧ ∀ v ∈ vs, fits ty v = true
def ArI (Z : State) (h : Heap) (a : Addr) (xs : List Int32) : Prop := ArV Z h a .int (xs.map Value.int)
def ArJ (Z : State) (h : Heap) (a : Addr) (xs : List Int64) : Prop := ArV Z h a .long (xs.map Value.long)
def ArB (Z : State) (h : Heap) (a : Addr) (xs : List Int8) : Prop := ArV Z h a .byte (xs.map fun x => Value.int x.toInt32)
variable {ty : FieldType} {vs : List Value}
theorem ArV.lt (A : ArV Z h a ty vs) : a < h.size := by obtain ⟨c, A, -⟩ := A; exact A.lt
theorem ArV.keep {ws : List Addr} (A : ArV Z h a ty vs) (K : Keep h h' ws) (q : a ∉ ws) : ArV Z h' a ty vs := by
  obtain ⟨c, A, r⟩ := A
  exact ⟨c, ⟨K.2.1 a c A.1 q, A.2⟩, r⟩
theorem ArV.ext (A : ArV Z h a ty vs) (E : Ext h h') : ArV Z h' a ty vs := by
  obtain ⟨c, A, r⟩ := A
  exact ⟨c, A.ext E, r⟩
theorem ArV.set {i : Nat} {v : Value} (A : ArV Z h a ty vs) (W : Wr h h' a i v) (hf : fits ty v = true) : ArV Z h' a ty (vs.set i v) := by
  obtain ⟨c, A, q1, q2, q3⟩ := A
  refine ⟨c.setSlot i v, A.same W, ?_, by simpa using q2, fun u hu => ?_⟩
  · simp [Cell.setSlot, q1]
  · rcases List.mem_or_eq_of_mem_set hu with z | rfl
    · exact q3 u z
    · exact hf
theorem ArV.other {i : Nat} {v : Value} (A : ArV Z h a ty vs) (W : Wr h h' b i v) (q : a ≠ b) : ArV Z h' a ty vs := by
  obtain ⟨c, A, r⟩ := A
  exact ⟨c, A.other W q, r⟩
theorem ArV.new {cA : ClassId} {n : Int32} {m : Nat} (A : Arr Z h a (newA cA ty n) ty) (hn : n.toInt = (m : Nat)) (hf : fits ty (defaultValue ty) = true) : ArV Z h a ty (List.replicate m (defaultValue ty)) := by
  have e : n.toNatClampNeg = m := by simp only [Int32.toNatClampNeg]; omega
  refine ⟨_, A, ?_, ?_, fun v hv => ?_⟩
  · simp [newA, e]
  · have := n.toInt_lt; simp; omega
  · rw [List.eq_of_mem_replicate hv]; exact hf
theorem idx_ok {j : Int32} {i n : Nat} (hj : j.toInt = (i : Nat)) (hi : i < n) : ¬ (j < 0 ∨ n ≤ j.toNatClampNeg) ∧ j.toNatClampNeg = i := by
  have e : j.toNatClampNeg = i := by simp only [Int32.toNatClampNeg]; omega
  refine ⟨?_, e⟩
  rw [e, Int32.lt_iff_toInt_lt, show (0 : Int32).toInt = 0 from rfl]; omega
theorem size_eq {z : Int32} {n : Nat} (hz : z.toInt = (n : Nat)) : n.toInt32 = z := by
  have e : n = z.toNatClampNeg := by simp only [Int32.toNatClampNeg]; omega
  have := (back32 (n := z) (by rw [Int32.lt_iff_toInt_lt, show (0 : Int32).toInt = 0 from rfl]; omega)).1
  rw [← e] at this; exact this
theorem ArV.parts {i : Nat} {v : Value} (A : ArV Z h a ty vs) (hv : vs[i]? = some v) : ∃ c : Cell, Arr Z h a c ty ∧ i < c.slots.size ∧ c.slots[i]? = some v := by
  obtain ⟨c, A, q1, -⟩ := A
  have : i < vs.length := (List.getElem?_eq_some_iff.mp hv).1
  refine ⟨c, A, ?_, ?_⟩
  · rw [← q1] at this; simpa using this
  · rw [← q1] at hv; simpa using hv
theorem WP.arraylength (K : Ok k l Z n0 rm bytes maxL y ret Q) (z : Int32) (pc' : Nat) (A : ArV Z h a ty vs) (hz : z.toInt = (vs.length : Nat)) (hd : decode bytes pc = .ok (.arraylength, 1)) (hp : pc + 1 = pc') (w : WP k h cells slots pc' ls (.int z :: st)) : WP k h cells slots pc ls (.ref a :: st) := by
  subst hp
  intro T locs X e N
  obtain ⟨c, A, q1, -⟩ := A
  have es : c.slots.size.toInt32 = z := size_eq (by rw [hz, ← q1]; simp)
  refine End.back (fun t q => ?_) (w T locs X e N)
  exact Stand.arraylength X K.hx (cell := c) (by rw [e]; exact A.1) (State.isArrayOf_alike K.hZ.alike A.2.1) (g := mkF k.m pc ls.toArray (.ref a :: st)) rfl rfl (K.dec hd) _ (by rw [es]; exact q)
theorem WP.iaload (K : Ok k l Z n0 rm bytes maxL y ret Q) {xs : List Int32} {j x : Int32} (pc' i : Nat) (A : ArI Z h a xs) (hj : j.toInt = (i : Nat)) (hx : xs[i]? = some x) (hd : decode bytes pc = .ok (.iaload, 1)) (hp : pc + 1 = pc') (w : WP k h cells slots pc' ls (.int x :: st)) : WP k h cells slots pc ls (.int j :: .ref a :: st) := by
  subst hp
  intro T locs X e N
  obtain ⟨c, A, q1, q2⟩ := ArV.parts A (i := i) (v := .int x) (by simp [hx])
  obtain ⟨r1, r2⟩ := idx_ok hj q1
  refine End.back (fun t q => ?_) (w T locs X e N)
  exact Stand.iaload X K.hx (j := j) (v := .int x) (by rw [e]; exact A.1) (State.isArrayOf_alike K.hZ.alike A.2.1) A.2.2 r1 (by rw [r2]; exact q2) (g := mkF k.m pc ls.toArray (.int j :: .ref a :: st)) rfl rfl (K.dec hd) _ q
theorem WP.laload (K : Ok k l Z n0 rm bytes maxL y ret Q) {xs : List Int64} {j : Int32} {x : Int64} (pc' i : Nat) (A : ArJ Z h a xs) (hj : j.toInt = (i : Nat)) (hx : xs[i]? = some x) (hd : decode bytes pc = .ok (.laload, 1)) (hp : pc + 1 = pc') (w : WP k h cells slots pc' ls (.long x :: st)) : WP k h cells slots pc ls (.int j :: .ref a :: st) := by
  subst hp
  intro T locs X e N
  obtain ⟨c, A, q1, q2⟩ := ArV.parts A (i := i) (v := .long x) (by simp [hx])
  obtain ⟨r1, r2⟩ := idx_ok hj q1
  refine End.back (fun t q => ?_) (w T locs X e N)
  exact Stand.laload X K.hx (j := j) (v := .long x) (by rw [e]; exact A.1) (State.isArrayOf_alike K.hZ.alike A.2.1) A.2.2 r1 (by rw [r2]; exact q2) (g := mkF k.m pc ls.toArray (.int j :: .ref a :: st)) rfl rfl (K.dec hd) _ q
theorem WP.baload (K : Ok k l Z n0 rm bytes maxL y ret Q) {xs : List Int8} {j : Int32} {x : Int8} (pc' i : Nat) (A : ArB Z h a xs) (hj : j.toInt = (i : Nat)) (hx : xs[i]? = some x) (hd : decode bytes pc = .ok (.baload, 1)) (hp : pc + 1 = pc') (w : WP k h cells slots pc' ls (.int x.toInt32 :: st)) : WP k h cells slots pc ls (.int j :: .ref a :: st) := by
  subst hp
  intro T locs X e N
  obtain ⟨c, A, q1, q2⟩ := ArV.parts A (i := i) (v := .int x.toInt32) (by simp [hx])
  obtain ⟨r1, r2⟩ := idx_ok hj q1
  refine End.back (fun t q => ?_) (w T locs X e N)
  exact Stand.baloadBytes X K.hx (j := j) (v := .int x.toInt32) (by rw [e]; exact A.1) (State.isArrayOf_alike K.hZ.alike A.2.1) A.2.2 r1 (by rw [r2]; exact q2) (g := mkF k.m pc ls.toArray (.int j :: .ref a :: st)) rfl rfl (K.dec hd) _ q
theorem WP.aaload (K : Ok k l Z n0 rm bytes maxL y ret Q) {j : Int32} {x : Value} (pc' i : Nat) (A : ArV Z h a ty vs) (hty : ty.isReference = true) (hj : j.toInt = (i : Nat)) (hx : vs[i]? = some x) (hd : decode bytes pc = .ok (.aaload, 1)) (hp : pc + 1 = pc') (w : WP k h cells slots pc' ls (x :: st)) : WP k h cells slots pc ls (.int j :: .ref a :: st) := by
  subst hp
  intro T locs X e N
  obtain ⟨c, A, q1, q2⟩ := ArV.parts A (i := i) hx
  obtain ⟨r1, r2⟩ := idx_ok hj q1
  refine End.back (fun t q => ?_) (w T locs X e N)
  exact Stand.aaload X K.hx (j := j) (v := x) (by rw [e]; exact A.1) (State.isArrayOf_alike K.hZ.alike A.2.1) hty A.2.2 r1 (by rw [r2]; exact q2) (g := mkF k.m pc ls.toArray (.int j :: .ref a :: st)) rfl rfl (K.dec hd) _ q
theorem WP.iastore (K : Ok k l Z n0 rm bytes maxL y ret Q) {xs : List Int32} {j x : Int32} (pc' i : Nat) (A : ArI Z h a xs) (hj : j.toInt = (i : Nat)) (hi : i < xs.length) (hd : decode bytes pc = .ok (.iastore, 1)) (hp : pc + 1 = pc') (ha : n0 ≤ a)
    (w : ∀ h', Keep h h' [a] → ArI Z h' a (xs.set i x) → WP k h' cells slots pc' ls st) : WP k h cells slots pc ls (.int x :: .int j :: .ref a :: st) := by
  subst hp
  intro T locs X e N
  have A0 := A
  obtain ⟨c, A', q1, -⟩ := A
  obtain ⟨r1, r2⟩ := idx_ok hj (show i < c.slots.size by have := congrArg List.length q1; simp at this; omega)
  obtain ⟨T', h', X', e', W', stp⟩ := stI X K.hx K.hZ e A' r1 (x := x) (g := mkF k.m pc ls.toArray (.int x :: .int j :: .ref a :: st)) rfl rfl (K.dec hd)
  rw [r2] at W'
  have A2 := ArV.set A0 W' rfl
  rw [← List.map_set] at A2
  exact End.back stp (w h' (Keep.of_wr W') A2 T' _ X' e' (Fr.snoc X' N (by rw [K.hn0]; exact ha)))
theorem WP.lastore (K : Ok k l Z n0 rm bytes maxL y ret Q) {xs : List Int64} {j : Int32} {x : Int64} (pc' i : Nat) (A : ArJ Z h a xs) (hj : j.toInt = (i : Nat)) (hi : i < xs.length) (hd : decode bytes pc = .ok (.lastore, 1)) (hp : pc + 1 = pc') (ha : n0 ≤ a)
    (w : ∀ h', Keep h h' [a] → ArJ Z h' a (xs.set i x) → WP k h' cells slots pc' ls st) : WP k h cells slots pc ls (.long x :: .int j :: .ref a :: st) := by
  subst hp
  intro T locs X e N
  have A0 := A
  obtain ⟨c, A', q1, -⟩ := A
  obtain ⟨r1, r2⟩ := idx_ok hj (show i < c.slots.size by have := congrArg List.length q1; simp at this; omega)
  obtain ⟨T', h', X', e', W', stp⟩ := stJ X K.hx K.hZ e A' r1 (x := x) (g := mkF k.m pc ls.toArray (.long x :: .int j :: .ref a :: st)) rfl rfl (K.dec hd)
  rw [r2] at W'
  have A2 := ArV.set A0 W' rfl
  rw [← List.map_set] at A2
  exact End.back stp (w h' (Keep.of_wr W') A2 T' _ X' e' (Fr.snoc X' N (by rw [K.hn0]; exact ha)))
theorem WP.bastore (K : Ok k l Z n0 rm bytes maxL y ret Q) {xs : List Int8} {j x : Int32} (pc' i : Nat) (A : ArB Z h a xs) (hj : j.toInt = (i : Nat)) (hi : i < xs.length) (hd : decode bytes pc = .ok (.bastore, 1)) (hp : pc + 1 = pc') (ha : n0 ≤ a)
    (w : ∀ h', Keep h h' [a] → ArB Z h' a (xs.set i x.toInt8) → WP k h' cells slots pc' ls st) : WP k h cells slots pc ls (.int x :: .int j :: .ref a :: st) := by
  subst hp
  intro T locs X e N
  have A0 := A
  obtain ⟨c, A', q1, -⟩ := A
  obtain ⟨r1, r2⟩ := idx_ok hj (show i < c.slots.size by have := congrArg List.length q1; simp at this; omega)
  obtain ⟨T', h', X', e', W', stp⟩ := stB X K.hx K.hZ e A' r1 (x := x) (g := mkF k.m pc ls.toArray (.int x :: .int j :: .ref a :: st)) rfl rfl (K.dec hd)
  rw [r2] at W'
  have A2 : ArB Z h' a (xs.set i x.toInt8) := by
    have := ArV.set A0 W' (fits_nar_byte x)
    rw [show Value.int (nar .byte x) = (fun z : Int8 => Value.int z.toInt32) x.toInt8 from rfl, ← List.map_set] at this
    exact this
  exact End.back stp (w h' (Keep.of_wr W') A2 T' _ X' e' (Fr.snoc X' N (by rw [K.hn0]; exact ha)))
theorem WP.newarray (K : Ok k l Z n0 rm bytes maxL y ret Q) {aty : ArrayType} {n : Int32} (pc' m cap cells' slots' : Nat) (hw : (Jvm.Cond.arrayClass (newarray.typeOf aty)).before a0 Z = true) (hd : decode bytes pc = .ok (.newarray aty, 2)) (hp : pc + 2 = pc') (hn : n.toInt = (m : Nat)) (hcap : m ≤ cap) (hb : cap * 8 ≤ 536870912)
    (hc : cells + 1 = cells') (hs : slots + cap = slots') (hc' : cells' ≤ rm.cells) (hs' : slots' ≤ rm.slots)
    (w : ∀ h' a, a = h.size → Ext h h' → ArV Z h' a (newarray.typeOf aty) (List.replicate m (defaultValue (newarray.typeOf aty))) → WP k h' cells' slots' pc' ls (.ref a :: st)) : WP k h cells slots pc ls (.int n :: st) := by
  subst hp hc hs
  intro T locs X e N
  have hn' : ¬ n < 0 := by rw [Int32.lt_iff_toInt_lt, show (0 : Int32).toInt = 0 from rfl]; omega
  obtain ⟨T', h', cA, X', e', E', A', stp⟩ := newP X K.hx K.hZ hw e (g := mkF k.m pc ls.toArray (.int n :: st)) rfl (K.dec hd) rfl hn' (cap := cap) (by simp only [Int32.toNatClampNeg]; omega) hb (by rw [K.hR]; exact hc') (by rw [K.hR]; exact hs')
  exact End.back stp (w h' _ rfl E' (ArV.new A' hn (by cases aty <;> rfl)) T' locs X' e' N)
theorem WP.newarrayE (K : Ok k l Z n0 rm bytes maxL y ret Q) {aty : ArrayType} {n : Int32} {ad : String} (pc' m cap cells' slots' : Nat) (hw : (Jvm.Cond.arrayClass (newarray.typeOf aty)).before a0 Z = true) (hd : decode bytes pc = .ok (.newarray aty, 2)) (hp : pc + 2 = pc') (hn : n.toInt = (m : Nat)) (hcap : m ≤ cap) (hb : cap * 8 ≤ 536870912)
    (hc : cells + 1 = cells') (hs : slots + cap = slots') (hc' : cells' ≤ rm.cells) (hs' : slots' ≤ rm.slots) (had : "[" ++ (newarray.typeOf aty).toString = ad)
    (w : ∀ h' a, a = h.size → Ext h h' → ArV Z h' a (newarray.typeOf aty) (List.replicate m (defaultValue (newarray.typeOf aty))) → Exa Z h' a ad → WP k h' cells' slots' pc' ls (.ref a :: st)) : WP k h cells slots pc ls (.int n :: st) := by
  subst hp hc hs
  intro T locs X e N
  have hn' : ¬ n < 0 := by rw [Int32.lt_iff_toInt_lt, show (0 : Int32).toInt = 0 from rfl]; omega
  obtain ⟨T', h', cA, X', e', E', A', XA, stp⟩ := newPE X K.hx K.hZ hw e (g := mkF k.m pc ls.toArray (.int n :: st)) rfl (K.dec hd) rfl hn' (cap := cap) (by simp only [Int32.toNatClampNeg]; omega) hb (by rw [K.hR]; exact hc') (by rw [K.hR]; exact hs') had
  exact End.back stp (w h' _ rfl E' (ArV.new A' hn (by cases aty <;> rfl)) XA T' locs X' e' N)
/-! arrays of references -/
def ArR (Z : State) (h : Heap) (a : Addr) (ty : FieldType) (C : String) (vs : List Value) : Prop := ∃ c : Cell, Arr Z h a c ty ∧ c.slots.toList = vs ∧ vs.length < 2 ^ 31 ∧ (∀ v ∈ vs, fits ty v = true) ∧ ∃ (kk : Class) (comp : ClassId) (t : FieldType), Z.vm.classes[c.cls]? = some kk ∧ kk.kind = .array comp t ∧ Z.vm.findClass C = some comp
variable {C : String}
theorem ArR.v (A : ArR Z h a ty C vs) : ArV Z h a ty vs := by obtain ⟨c, q1, q2, q3, q4, -⟩ := A; exact ⟨c, q1, q2, q3, q4⟩
theorem ArR.lt (A : ArR Z h a ty C vs) : a < h.size := A.v.lt
theorem ArR.len (A : ArR Z h a ty C vs) : vs.length < 2 ^ 31 := by obtain ⟨c, -, -, q, -⟩ := A; exact q
theorem ArR.keep {ws : List Addr} (A : ArR Z h a ty C vs) (K : Keep h h' ws) (q : a ∉ ws) : ArR Z h' a ty C vs := by
  obtain ⟨c, A, r⟩ := A
  exact ⟨c, ⟨K.2.1 a c A.1 q, A.2⟩, r⟩
theorem ArR.ext (A : ArR Z h a ty C vs) (E : Ext h h') : ArR Z h' a ty C vs := by
  obtain ⟨c, A, r⟩ := A
  exact ⟨c, A.ext E, r⟩
theorem ArR.other {i : Nat} {v : Value} (A : ArR Z h a ty C vs) (W : Wr h h' b i v) (q : a ≠ b) : ArR Z h' a ty C vs := by
  obtain ⟨c, A, r⟩ := A
  exact ⟨c, A.other W q, r⟩
theorem ArR.sto {x : Addr} (A : ArR Z h a ty C vs) (I : Ins Z h x C true) : Sto Z h a (.ref x) := by
  obtain ⟨c, A, -, -, -, kk, comp, t, o1, o2, o3⟩ := A
  obtain ⟨cv, cT, i1, i2, i3⟩ := I
  cases o3.symm.trans i2
  simp only [Bool.and_eq_true, Bool.not_eq_true'] at i3
  obtain ⟨kc, q⟩ := Vm.classAt_of_findClass o3
  obtain ⟨kv, q2⟩ := Vm.classAt_of_assignable i3.2 ⟨kc, q⟩
  exact Or.inr ⟨c, cv, kk, kv, kc, _, _, x, A.1, o1, o2, q, rfl, i1, i3.1, q2, i3.2⟩
theorem WP.aastore (K : Ok k l Z n0 rm bytes maxL y ret Q) {j : Int32} {v : Value} (pc' i : Nat) (A : ArR Z h a ty C vs) (hty : ty.isReference = true) (F : Sto Z h a v) (hf : fits ty v = true) (hj : j.toInt = (i : Nat)) (hi : i < vs.length) (hd : decode bytes pc = .ok (.aastore, 1)) (hp : pc + 1 = pc') (ha : n0 ≤ a)
    (w : ∀ h', Keep h h' [a] → ArR Z h' a ty C (vs.set i v) → WP k h' cells slots pc' ls st) : WP k h cells slots pc ls (v :: .int j :: .ref a :: st) := by
  subst hp
  intro T locs X e N
  obtain ⟨c, A', q1, q2, q3, q4⟩ := A
  obtain ⟨r1, r2⟩ := idx_ok hj (show i < c.slots.size by have := congrArg List.length q1; simp at this; omega)
  obtain ⟨T', h', X', e', W', stp⟩ := stR X K.hx K.hZ e A' r1 hty F (g := mkF k.m pc ls.toArray (v :: .int j :: .ref a :: st)) rfl rfl (K.dec hd)
  rw [r2] at W'
  have A2 : ArR Z h' a ty C (vs.set i v) := by
    refine ⟨c.setSlot i v, A'.same W', by simp [Cell.setSlot, q1], by simpa using q2, fun u hu => ?_, q4⟩
    rcases List.mem_or_eq_of_mem_set hu with z | rfl
    · exact q3 u z
    · exact hf
  exact End.back stp (w h' (Keep.of_wr W') A2 T' _ X' e' (Fr.snoc X' N (by rw [K.hn0]; exact ha)))
theorem new_ref {cA : ClassId} {n : Int32} {m : Nat} (A : Arr Z h a (newA cA ty n) ty) (hr : ty.isReference = true) (hn : n.toInt = (m : Nat)) (O : ∃ (kk : Class) (comp : ClassId) (t : FieldType), Z.vm.classes[cA]? = some kk ∧ kk.kind = .array comp t ∧ Z.vm.findClass C = some comp) : ArR Z h a ty C (List.replicate m .null) := by
  have e : n.toNatClampNeg = m := by simp only [Int32.toNatClampNeg]; omega
  have d : defaultValue ty = .null := by cases ty <;> simp [FieldType.isReference] at hr <;> rfl
  refine ⟨_, A, ?_, ?_, fun v hv => ?_, O⟩
  · simp [newA, e, d]
  · have := n.toInt_lt; simp; omega
  · rw [List.eq_of_mem_replicate hv]; cases ty <;> simp [FieldType.isReference] at hr <;> rfl
theorem WP.anewarrayA (K : Ok k l Z n0 rm bytes maxL y ret Q) {i : Nat} {et : FieldType} {n : Int32} (pc' m cap cells' slots' : Nat) (hC : (FieldType.array et).toString = C) (h1 : (Jvm.Cond.classLink y.cls i C).before a0 Z = true) (h2 : (Jvm.Cond.arrayOver (.array et)).before a0 Z = true) (hd : decode bytes pc = .ok (.anewarray i, 3)) (hp : pc + 3 = pc') (hn : n.toInt = (m : Nat)) (hcap : m ≤ cap) (hb : cap * 8 ≤ 536870912)
    (hc : cells + 1 = cells') (hs : slots + cap = slots') (hc' : cells' ≤ rm.cells) (hs' : slots' ≤ rm.slots)
    (w : ∀ h' a, a = h.size → Ext h h' → ArR Z h' a (.array et) C (List.replicate m .null) → WP k h' cells' slots' pc' ls (.ref a :: st)) : WP k h cells slots pc ls (.int n :: st) := by
  subst hp hc hs
  intro T locs X e N
  have hn' : ¬ n < 0 := by rw [Int32.lt_iff_toInt_lt, show (0 : Int32).toInt = 0 from rfl]; omega
  obtain ⟨T', h', cA, X', e', E', A', -, O, stp⟩ := newRA X K.hx K.hZ K.hown hC h1 h2 e (g := mkF k.m pc ls.toArray (.int n :: st)) rfl (K.dec hd) rfl hn' (cap := cap) (by simp only [Int32.toNatClampNeg]; omega) hb (by rw [K.hR]; exact hc') (by rw [K.hR]; exact hs') (ad := "[" ++ C) rfl
  obtain ⟨kk, comp, o1, o2, o3⟩ := O
  exact End.back stp (w h' _ rfl E' (new_ref A' rfl hn ⟨kk, comp, _, o1, o2, o3⟩) T' locs X' e' N)
theorem WP.anewarrayO (K : Ok k l Z n0 rm bytes maxL y ret Q) {i : Nat} {n : Int32} (pc' m cap cells' slots' : Nat) (h1 : (Jvm.Cond.classLink y.cls i C).before a0 Z = true) (h2 : (Jvm.Cond.arrayOver (.object C)).before a0 Z = true) (hd : decode bytes pc = .ok (.anewarray i, 3)) (hp : pc + 3 = pc') (hn : n.toInt = (m : Nat)) (hcap : m ≤ cap) (hb : cap * 8 ≤ 536870912)
    (hc : cells + 1 = cells') (hs : slots + cap = slots') (hc' : cells' ≤ rm.cells) (hs' : slots' ≤ rm.slots)
    (w : ∀ h' a, a = h.size → Ext h h' → ArR Z h' a (.object C) C (List.replicate m .null) → WP k h' cells' slots' pc' ls (.ref a :: st)) : WP k h cells slots pc ls (.int n :: st) := by
  subst hp hc hs
  intro T locs X e N
  have hn' : ¬ n < 0 := by rw [Int32.lt_iff_toInt_lt, show (0 : Int32).toInt = 0 from rfl]; omega
  obtain ⟨T', h', cA, X', e', E', A', O, stp⟩ := newR X K.hx K.hZ K.hown h1 h2 e (g := mkF k.m pc ls.toArray (.int n :: st)) rfl (K.dec hd) rfl hn' (cap := cap) (by simp only [Int32.toNatClampNeg]; omega) hb (by rw [K.hR]; exact hc') (by rw [K.hR]; exact hs')
  obtain ⟨kk, comp, o1, o2, o3⟩ := O
  exact End.back stp (w h' _ rfl E' (new_ref A' rfl hn ⟨kk, comp, _, o1, o2, o3⟩) T' locs X' e' N)
theorem ArI.of_new {m : Nat} (A : ArV Z h a (newarray.typeOf .int) (List.replicate m (defaultValue (newarray.typeOf .int)))) : ArI Z h a (List.replicate m 0) := by
  unfold ArI; rw [List.map_replicate]; exact A
theorem ArJ.of_new {m : Nat} (A : ArV Z h a (newarray.typeOf .long) (List.replicate m (defaultValue (newarray.typeOf .long)))) : ArJ Z h a (List.replicate m 0) := by
  unfold ArJ; rw [List.map_replicate]; exact A
theorem ArB.of_new {m : Nat} (A : ArV Z h a (newarray.typeOf .byte) (List.replicate m (defaultValue (newarray.typeOf .byte)))) : ArB Z h a (List.replicate m 0) := by
  unfold ArB; rw [List.map_replicate]; exact A
theorem ArI.len {xs : List Int32} (A : ArI Z h a xs) : xs.length < 2 ^ 31 := by obtain ⟨c, -, -, q, -⟩ := A; simpa using q
theorem ArJ.len {xs : List Int64} (A : ArJ Z h a xs) : xs.length < 2 ^ 31 := by obtain ⟨c, -, -, q, -⟩ := A; simpa using q
theorem ArB.len {xs : List Int8} (A : ArB Z h a xs) : xs.length < 2 ^ 31 := by obtain ⟨c, -, -, q, -⟩ := A; simpa using q
theorem ArI.lt {xs : List Int32} (A : ArI Z h a xs) : a < h.size := ArV.lt A
theorem ArI.keep {xs : List Int32} {ws : List Addr} (A : ArI Z h a xs) (K : Keep h h' ws) (q : a ∉ ws) : ArI Z h' a xs := ArV.keep A K q
theorem ArI.ext {xs : List Int32} (A : ArI Z h a xs) (E : Ext h h') : ArI Z h' a xs := ArV.ext A E
theorem ArI.other {xs : List Int32} {i : Nat} {v : Value} (A : ArI Z h a xs) (W : Wr h h' b i v) (q : a ≠ b) : ArI Z h' a xs := ArV.other A W q
theorem ArJ.lt {xs : List Int64} (A : ArJ Z h a xs) : a < h.size := ArV.lt A
theorem ArJ.keep {xs : List Int64} {ws : List Addr} (A : ArJ Z h a xs) (K : Keep h h' ws) (q : a ∉ ws) : ArJ Z h' a xs := ArV.keep A K q
theorem ArJ.ext {xs : List Int64} (A : ArJ Z h a xs) (E : Ext h h') : ArJ Z h' a xs := ArV.ext A E
theorem ArJ.other {xs : List Int64} {i : Nat} {v : Value} (A : ArJ Z h a xs) (W : Wr h h' b i v) (q : a ≠ b) : ArJ Z h' a xs := ArV.other A W q
theorem ArB.lt {xs : List Int8} (A : ArB Z h a xs) : a < h.size := ArV.lt A
theorem ArB.keep {xs : List Int8} {ws : List Addr} (A : ArB Z h a xs) (K : Keep h h' ws) (q : a ∉ ws) : ArB Z h' a xs := ArV.keep A K q
theorem ArB.ext {xs : List Int8} (A : ArB Z h a xs) (E : Ext h h') : ArB Z h' a xs := ArV.ext A E
theorem ArB.other {xs : List Int8} {i : Nat} {v : Value} (A : ArB Z h a xs) (W : Wr h h' b i v) (q : a ≠ b) : ArB Z h' a xs := ArV.other A W q
/-! calls by contract -/
theorem WP.callS (K : Ok k l Z n0 rm bytes maxL y ret Q) {i maxL' : Nat} {y' : MethodName} {bytes' : ByteArray} {ret' : Option FieldType} {rm' : Room} {as : Array Value} {Q' : Option Value → Heap → Prop} {ps : List FieldType} {rt : Option FieldType} (pc' cells' slots' W : Nat) (argsL rest : List Value)
    (h1 : (Jvm.Cond.methodLink y.cls i y').before a0 Z = true) (h2 : (Jvm.Cond.static y').before a0 Z = true) (h3 : (Jvm.Cond.initialized y'.cls).before a0 Z = true) (h4 : (Jvm.Cond.code y' bytes' maxL' ret').before a0 Z = true)
    (hy : y'.cls ≠ "java/lang/invoke/MethodHandle" ∧ y'.cls ≠ "java/lang/invoke/VarHandle") (hpd : parseMethodDescriptor y'.desc = some ⟨ps, rt⟩) (hlen : argsL.length = ps.length) (has : argsL.toArray = as) (hst : argsL.reverse ++ rest = st)
    (hf : rm'.frames + 1 ≤ rm.frames) (hl : W + (maxL' + 11) + rm'.locals ≤ rm.locals) (hW : (rest.map fun v => v.category).sum ≤ W) (hsz : ls.length = maxL) (hd : decode bytes pc = .ok (.invokestatic i, 3)) (hp : pc + 3 = pc')
    (hc : cells + rm'.cells = cells') (hs : slots + rm'.slots = slots') (hc' : cells' ≤ rm.cells) (hs' : slots' ≤ rm.slots) (C : Con l Z y' bytes' maxL' ret' rm' n0 as h Q')
    (w : ∀ v h', Q' v h' → WP k h' cells' slots' pc' ls (v.toList ++ rest)) : WP k h cells slots pc ls st := by
  subst hp hc hs hst has
  obtain ⟨hx, hZ, rfl, hby, hml, hown, hret, hlk, hnm, rfl, rfl, rfl, rfl, hfin⟩ := K
  intro T locs X e N
  obtain ⟨v, vm1, ⟨T', L', k', n'⟩, -, X', ⟨Lc, ⟨hQ, hN⟩, l', y'', z'⟩, stp⟩ := Jvm.LawKit.callS X hx hown (mvT hZ h1) (mvT hZ h2) (mvT hZ h3) (mvT hZ h4) hy (backOf (W := W) (Q := fun v h L => Q' v h ∧ Fr k.n0 L) (C []) hZ h4 h3 hf hl) (g := mkF k.m pc ls.toArray (argsL.reverse ++ rest)) rfl (by rw [hml]; simpa using hsz) (lenOf hpd hlen) rfl (by show 2 * 0 + _ ≤ _; omega) (hb hby hd) (fun _ _ => ⟨rfl, e, hc', hs'⟩)
  dsimp only [Pt.U, Pt.locs, Pt.cells, Pt.slots] at X' l' y'' z' stp hQ
  subst l' y'' z'
  exact End.back stp (w v _ hQ T' _ X' rfl (Fr.app N hN))
theorem WP.callI (K : Ok k l Z n0 rm bytes maxL y ret Q) {i maxL' : Nat} {y' : MethodName} {bytes' : ByteArray} {rm' : Room} {as : Array Value} {Q' : Option Value → Heap → Prop} {ps : List FieldType} {rt : Option FieldType} (pc' cells' slots' W : Nat) (argsL rest : List Value)
    (h1 : (Jvm.Cond.methodLink y.cls i y').before a0 Z = true) (h2 : (Jvm.Cond.instanceMethod y').before a0 Z = true) (h3 : (Jvm.Cond.initialized y'.cls).before a0 Z = true) (h4 : (Jvm.Cond.code y' bytes' maxL' none).before a0 Z = true) (hy1 : y'.name = "<init>")
    (hy : y'.cls ≠ "java/lang/invoke/MethodHandle" ∧ y'.cls ≠ "java/lang/invoke/VarHandle") (hpd : parseMethodDescriptor y'.desc = some ⟨ps, rt⟩) (hlen : argsL.length = ps.length) (has : (.ref a :: argsL).toArray = as) (hst : argsL.reverse ++ .ref a :: rest = st)
    (hf : rm'.frames + 1 ≤ rm.frames) (hl : W + (maxL' + 11) + rm'.locals ≤ rm.locals) (hW : (rest.map fun v => v.category).sum ≤ W) (hsz : ls.length = maxL) (hd : decode bytes pc = .ok (.invokespecial i, 3)) (hp : pc + 3 = pc')
    (hc : cells + rm'.cells = cells') (hs : slots + rm'.slots = slots') (hc' : cells' ≤ rm.cells) (hs' : slots' ≤ rm.slots) (C : Con l Z y' bytes' maxL' none rm' n0 as h Q')
    (w : ∀ v h', Q' v h' → WP k h' cells' slots' pc' ls (v.toList ++ rest)) : WP k h cells slots pc ls st := by
  subst hp hc hs hst has
  obtain ⟨hx, hZ, rfl, hby, hml, hown, hret, hlk, hnm, rfl, rfl, rfl, rfl, hfin⟩ := K
  intro T locs X e N
  obtain ⟨v, vm1, ⟨T', L', k', n'⟩, -, X', ⟨Lc, ⟨hQ, hN⟩, l', y'', z'⟩, stp⟩ := Stand.specialBack X hx hy1 hown (mvT hZ h1) (mvT hZ h2) (mvT hZ h4) hy (backOf (W := W) (Q := fun v h L => Q' v h ∧ Fr k.n0 L) (C []) hZ h4 h3 hf hl) (g := mkF k.m pc ls.toArray (argsL.reverse ++ .ref a :: rest)) rfl (by rw [hml]; simpa using hsz) (Steps.refl _) (a := a) (argsL := argsL) (rest := rest) (lenOf hpd hlen) rfl (by show 2 * 0 + _ ≤ _; omega) (hb hby hd) (fun _ _ => ⟨rfl, e, hc', hs'⟩)
  dsimp only [Pt.U, Pt.locs, Pt.cells, Pt.slots] at X' l' y'' z' stp hQ
  subst l' y'' z'
  exact End.back (fun t q => stp.trans q) (w v _ hQ T' _ X' rfl (Fr.app N hN))
theorem WP.callV (K : Ok k l Z n0 rm bytes maxL y ret Q) {i maxL' : Nat} {y' z : MethodName} {C : String} {bytes' : ByteArray} {ret' : Option FieldType} {rm' : Room} {as : Array Value} {Q' : Option Value → Heap → Prop} {ps : List FieldType} {rt : Option FieldType} (pc' cells' slots' W : Nat) (argsL rest : List Value)
    (h1 : (Jvm.Cond.methodLink y.cls i y').before a0 Z = true) (h2 : (Jvm.Cond.declares y').before a0 Z = true) (hzy : z = y') (h5 : (Jvm.Cond.selects C y' z).before a0 Z = true) (h6 : (Jvm.Cond.instanceMethod z).before a0 Z = true) (h3 : (Jvm.Cond.initialized z.cls).before a0 Z = true) (h4 : (Jvm.Cond.code z bytes' maxL' ret').before a0 Z = true)
    (hy : y'.cls ≠ "java/lang/invoke/MethodHandle" ∧ y'.cls ≠ "java/lang/invoke/VarHandle") (hpd : parseMethodDescriptor y'.desc = some ⟨ps, rt⟩) (hlen : argsL.length = ps.length) (has : (.ref a :: argsL).toArray = as) (hst : argsL.reverse ++ .ref a :: rest = st)
    (hf : rm'.frames + 1 ≤ rm.frames) (hl : W + (maxL' + 11) + rm'.locals ≤ rm.locals) (hW : (rest.map fun v => v.category).sum ≤ W) (hsz : ls.length = maxL) (hd : decode bytes pc = .ok (.invokevirtual i, 3)) (hp : pc + 3 = pc')
    (hc : cells + rm'.cells = cells') (hs : slots + rm'.slots = slots') (hc' : cells' ≤ rm.cells) (hs' : slots' ≤ rm.slots) (E : Exa Z h a C) (Cn : Con l Z z bytes' maxL' ret' rm' n0 as h Q')
    (w : ∀ v h', Q' v h' → WP k h' cells' slots' pc' ls (v.toList ++ rest)) : WP k h cells slots pc ls st := by
  subst hzy hp hc hs hst has
  obtain ⟨hx, hZ, rfl, hby, hml, hown, hret, hlk, hnm, rfl, rfl, rfl, rfl, hfin⟩ := K
  intro T locs X e N
  obtain ⟨cq, kq, qa, qb, qc⟩ := isOf hZ e E
  obtain ⟨v, vm1, ⟨T', L', k', n'⟩, -, X', ⟨Lc, ⟨hQ, hN⟩, l', y'', z'⟩, stp⟩ := Stand.virtualBack X hx hown (mvT hZ h1) (mvT hZ h2) (notFace_of_selects (args := #[]) (mvT hZ h5)) (mvT hZ h5) (mvT hZ h6) hy (backOf (W := W) (Q := fun v h L => Q' v h ∧ Fr k.n0 L) (Cn []) hZ h4 h3 hf hl) qa qc (g := mkF k.m pc ls.toArray (argsL.reverse ++ .ref a :: rest)) rfl (by rw [hml]; simpa using hsz) (Steps.refl _) (argsL := argsL) (rest := rest) (lenOf hpd hlen) rfl (by show 2 * 0 + _ ≤ _; omega) (hb hby hd) (fun _ _ => ⟨rfl, e, hc', hs'⟩)
  dsimp only [Pt.U, Pt.locs, Pt.cells, Pt.slots] at X' l' y'' z' stp hQ
  subst l' y'' z'
  exact End.back (fun t q => stp.trans q) (w v _ hQ T' _ X' rfl (Fr.app N hN))
theorem r1_next {Q' : Value → Heap → Prop} {cells' slots' pc' : Nat} {rest : List Value} (w : ∀ r h', Q' r h' → WP k h' cells' slots' pc' ls (r :: rest)) : ∀ v h', R1 Q' v h' → WP k h' cells' slots' pc' ls (v.toList ++ rest) := fun v h' q => by
  obtain ⟨r, rfl, q⟩ := q; exact w r h' q
theorem r0_next {Q' : Heap → Prop} {cells' slots' pc' : Nat} {rest : List Value} (w : ∀ h', Q' h' → WP k h' cells' slots' pc' ls rest) : ∀ v h', R0 Q' v h' → WP k h' cells' slots' pc' ls (v.toList ++ rest) := fun v h' q => by
  obtain ⟨rfl, q⟩ := q; exact w h' q
end HeapSteps
end Jvm.OwnWP
namespace Jvm.OwnWP
theorem i32_of {n : Nat} (h : n < 2 ^ 31) : ∃ z : Int32, z.toInt = (n : Nat) := ⟨Int32.ofNat n, Int32.toInt_ofNat_of_lt h⟩
theorem i32_rng (x : Int32) : -2147483648 ≤ x.toInt ∧ x.toInt < 2147483648 := ⟨x.le_toInt, x.toInt_lt⟩
theorem i64_rng (x : Int64) : -9223372036854775808 ≤ x.toInt ∧ x.toInt < 9223372036854775808 := ⟨x.le_toInt, x.toInt_lt⟩
theorem i32_add {x y : Int32} (h1 : -2147483648 ≤ x.toInt + y.toInt) (h2 : x.toInt + y.toInt < 2147483648) : (x + y).toInt = x.toInt + y.toInt := Jvm.Free.XT.add32 ⟨by omega, by omega⟩
theorem i32_sub {x y : Int32} (h1 : -2147483648 ≤ x.toInt - y.toInt) (h2 : x.toInt - y.toInt < 2147483648) : (x - y).toInt = x.toInt - y.toInt := Jvm.Free.XT.sub32 ⟨by omega, by omega⟩
theorem i64_add {x y : Int64} (h1 : -9223372036854775808 ≤ x.toInt + y.toInt) (h2 : x.toInt + y.toInt < 9223372036854775808) : (x + y).toInt = x.toInt + y.toInt := Jvm.Free.XT.add64 ⟨by omega, by omega⟩
theorem i64_sub {x y : Int64} (h1 : -9223372036854775808 ≤ x.toInt - y.toInt) (h2 : x.toInt - y.toInt < 9223372036854775808) : (x - y).toInt = x.toInt - y.toInt := Jvm.Free.XT.sub64 ⟨by omega, by omega⟩
theorem inc32 {x : Int32} {n : Nat} (h : x.toInt = (n : Nat)) (hn : n < 2147483647) : (x + (1 : Int32)).toInt = ((n + 1 : Nat) : Int) := by
  have e1 : (1 : Int32).toInt = 1 := rfl
  rw [i32_add (by omega) (by omega)]; omega
theorem i32_eq {x y : Int32} (h : x.toInt = y.toInt) : x = y := Int32.toInt_inj.mp h
theorem i64_eq {x y : Int64} (h : x.toInt = y.toInt) : x = y := Int64.toInt_inj.mp h
theorem ite01 (P : Prop) [Decidable P] : ∃ t : Int, (if P then (1 : Int) else 0) = t ∧ (P → t = 1) ∧ (¬ P → t = 0) := by
  by_cases h : P
  · exact ⟨1, by simp [h], fun _ => rfl, fun q => absurd h q⟩
  · exact ⟨0, by simp [h], fun q => absurd q h, fun _ => rfl⟩
theorem i32_mul {x y : Int32} (h1 : -2147483648 ≤ x.toInt * y.toInt) (h2 : x.toInt * y.toInt < 2147483648) : (x * y).toInt = x.toInt * y.toInt := Jvm.Free.XT.mul32 ⟨by omega, by omega⟩
theorem st1 {ls : List Slot} {i : Nat} {o : Slot} {v : Value} (h : ls[i]? = some o) (ho : Jvm.RoadKit.One o) (hv : v.category = 1) : storeLocals ls.toArray i v = some (ls.set i (.val v)).toArray := by
  rw [Jvm.Free.XS.store1 (o := o) (by simpa using h) ho hv]; simp
theorem ushr1 {x : Int32} (h : 0 ≤ x.toInt) : (Jvm.Free.XT.ushr x 1).toInt = x.toInt / 2 := by
  have := Jvm.RoadKit.c_iushr x 1 1 rfl (by decide)
  have r := i32_rng x
  unfold Jvm.Free.XT.ushr
  rw [this]; omega
def min32 (x y : Int32) : Int32 := if x.toInt ≤ y.toInt then x else y
def max32 (x y : Int32) : Int32 := if x.toInt ≤ y.toInt then y else x
theorem min32_spec (x y : Int32) : (x.toInt ≤ y.toInt → (min32 x y).toInt = x.toInt) ∧ (y.toInt < x.toInt → (min32 x y).toInt = y.toInt) := by
  unfold min32; split <;> constructor <;> intro <;> first | rfl | omega
theorem max32_spec (x y : Int32) : (x.toInt ≤ y.toInt → (max32 x y).toInt = y.toInt) ∧ (y.toInt < x.toInt → (max32 x y).toInt = x.toInt) := by
  unfold max32; split <;> constructor <;> intro <;> first | rfl | omega
def min64 (x y : Int64) : Int64 := if x.toInt ≤ y.toInt then x else y
def max64 (x y : Int64) : Int64 := if x.toInt ≤ y.toInt then y else x
theorem min64_spec (x y : Int64) : (x.toInt ≤ y.toInt → (min64 x y).toInt = x.toInt) ∧ (y.toInt < x.toInt → (min64 x y).toInt = y.toInt) := by
  unfold min64; split <;> constructor <;> intro <;> first | rfl | omega
theorem max64_spec (x y : Int64) : (x.toInt ≤ y.toInt → (max64 x y).toInt = y.toInt) ∧ (y.toInt < x.toInt → (max64 x y).toInt = x.toInt) := by
  unfold max64; split <;> constructor <;> intro <;> first | rfl | omega
end Jvm.OwnWP

namespace Jvm.Pilot.@@N@@
open Jvm Jvm.ClassFile Sem Op Lib Jvm.Free Jvm.Stand Jvm.LawKit Jvm.RoadKit Bundle Jvm.OwnWP Jvm.Pilot.@@N@@.Jvm.D
def own_at (xs : List Int64) (i : Nat) : Int64 := xs.getD (2 * i) 0
theorem own_at_get {xs : List Int64} {i : Nat} (h : 2 * i < xs.length) : xs[2 * i]? = some (own_at xs i) := by
  unfold own_at; rw [List.getElem?_eq_getElem h, List.getD_eq_getElem?_getD, List.getElem?_eq_getElem h]; rfl
theorem own_mn (x y : Int64) : (min64 x y).toInt ≤ x.toInt ∧ (min64 x y).toInt ≤ y.toInt ∧ ((min64 x y).toInt = x.toInt ∨ (min64 x y).toInt = y.toInt) := by
  have := min64_spec x y; omega
theorem own_mx (x y : Int64) : x.toInt ≤ (max64 x y).toInt ∧ y.toInt ≤ (max64 x y).toInt ∧ ((max64 x y).toInt = x.toInt ∨ (max64 x y).toInt = y.toInt) := by
  have := max64_spec x y; omega
theorem own_sort (a b c d : Int64) : (min64 (min64 a b) (min64 c d)).toInt ≤ (min64 (min64 (max64 a b) (max64 c d)) (max64 (min64 a b) (min64 c d))).toInt ∧
    (min64 (min64 (max64 a b) (max64 c d)) (max64 (min64 a b) (min64 c d))).toInt ≤ (max64 (min64 (max64 a b) (max64 c d)) (max64 (min64 a b) (min64 c d))).toInt ∧
    (max64 (min64 (max64 a b) (max64 c d)) (max64 (min64 a b) (min64 c d))).toInt ≤ (max64 (max64 a b) (max64 c d)).toInt := by
  have h1 := own_mn a b; have h2 := own_mx a b; have h3 := own_mn c d; have h4 := own_mx c d
  generalize min64 a b = x0 at *; generalize max64 a b = x1 at *; generalize min64 c d = x2 at *; generalize max64 c d = x3 at *
  have h5 := own_mn x0 x2; have h6 := own_mx x0 x2; have h7 := own_mn x1 x3; have h8 := own_mx x1 x3
  generalize min64 x0 x2 = y0 at *; generalize max64 x0 x2 = y2 at *; generalize min64 x1 x3 = y1 at *; generalize max64 x1 x3 = y3 at *
  have h9 := own_mn y1 y2; have h10 := own_mx y1 y2
  generalize min64 y1 y2 = z1 at *; generalize max64 y1 y2 = z2 at *
  refine ⟨?_, ?_, ?_⟩ <;> omega
theorem own_b1_0 : decode jdk_29_method_70_code 0 = .ok (.lload_n 0, 1) := by decide +kernel
theorem own_b1_1 : decode jdk_29_method_70_code 1 = .ok (.lload_n 2, 1) := by decide +kernel
theorem own_b1_2 : decode jdk_29_method_70_code 2 = .ok (.lcmp, 1) := by decide +kernel
theorem own_b1_3 : decode jdk_29_method_70_code 3 = .ok (.ifCond .gt 7, 3) := by decide +kernel
theorem own_b1_6 : decode jdk_29_method_70_code 6 = .ok (.lload_n 0, 1) := by decide +kernel
theorem own_b1_7 : decode jdk_29_method_70_code 7 = .ok (.goto 4, 3) := by decide +kernel
theorem own_b1_10 : decode jdk_29_method_70_code 10 = .ok (.lload_n 2, 1) := by decide +kernel
theorem own_b1_11 : decode jdk_29_method_70_code 11 = .ok (.lreturn, 1) := by decide +kernel
theorem own_pf_b1 : plainFor (⟨"java/lang/Math", "min", "(JJ)J"⟩ : MethodName) = true := by first | exact plainFor_of_name (by first | (simp [plainName, overriddenIn, x]; done) | decide +kernel) | decide +kernel
set_option maxRecDepth 65536 in
set_option maxHeartbeats 40000000 in
theorem own_min (l : Launch) (Z : State) (a0 : Array Value) (hw : ∀ d ∈ tables_1, d.before a0 Z = true) (n0 : Nat) (h : Heap) (x z : Int64) :
    Con l Z (⟨"java/lang/Math", "min", "(JJ)J"⟩ : MethodName) jdk_29_method_70_code 4 (some .long) ({ frames := 0, cells := 0, slots := 0, locals := 0 } : Room) n0 #[(.long x), (.long z)] h (R1 fun r h' => r = .long (min64 x z) ∧ h = h') := by
  refine Con.of (ls := [.val (.long x), .second, .val (.long z), .second]) own_pf_b1 (fun m => by first | (simp [entryFrame, mkF, argsToLocals, Value.category]; done) | rfl) fun k K => ?_
  refine WP.lloadN K 1 own_b1_0 rfl rfl ?_
  refine WP.lloadN K 2 own_b1_1 rfl rfl ?_
  refine WP.lcmp K 3 own_b1_2 rfl ?_
  refine WP.ifl_gt K 10 6 own_b1_3 (by decide) rfl (fun c3 => ?_) (fun c3 => ?_)
  · skip
    refine WP.lloadN K 11 own_b1_10 rfl rfl ?_
    refine WP.lret K rfl own_b1_11 ?_ (by decide) (by decide)
    refine ⟨_, rfl, ?_, rfl⟩
    simp only [min64]; congr 1; split <;> first | rfl | exact i64_eq (by omega) | (exfalso; omega)
  · skip
    refine WP.lloadN K 7 own_b1_6 rfl rfl ?_
    refine WP.goto K 11 own_b1_7 (by decide) ?_
    refine WP.lret K rfl own_b1_11 ?_ (by decide) (by decide)
    refine ⟨_, rfl, ?_, rfl⟩
    simp only [min64]; congr 1; split <;> first | rfl | exact i64_eq (by omega) | (exfalso; omega)
theorem own_b2_0 : decode jdk_29_method_66_code 0 = .ok (.lload_n 0, 1) := by decide +kernel
theorem own_b2_1 : decode jdk_29_method_66_code 1 = .ok (.lload_n 2, 1) := by decide +kernel
theorem own_b2_2 : decode jdk_29_method_66_code 2 = .ok (.lcmp, 1) := by decide +kernel
theorem own_b2_3 : decode jdk_29_method_66_code 3 = .ok (.ifCond .lt 7, 3) := by decide +kernel
theorem own_b2_6 : decode jdk_29_method_66_code 6 = .ok (.lload_n 0, 1) := by decide +kernel
theorem own_b2_7 : decode jdk_29_method_66_code 7 = .ok (.goto 4, 3) := by decide +kernel
theorem own_b2_10 : decode jdk_29_method_66_code 10 = .ok (.lload_n 2, 1) := by decide +kernel
theorem own_b2_11 : decode jdk_29_method_66_code 11 = .ok (.lreturn, 1) := by decide +kernel
theorem own_pf_b2 : plainFor (⟨"java/lang/Math", "max", "(JJ)J"⟩ : MethodName) = true := by first | exact plainFor_of_name (by first | (simp [plainName, overriddenIn, x]; done) | decide +kernel) | decide +kernel
set_option maxRecDepth 65536 in
set_option maxHeartbeats 40000000 in
theorem own_max (l : Launch) (Z : State) (a0 : Array Value) (hw : ∀ d ∈ tables_1, d.before a0 Z = true) (n0 : Nat) (h : Heap) (x z : Int64) :
    Con l Z (⟨"java/lang/Math", "max", "(JJ)J"⟩ : MethodName) jdk_29_method_66_code 4 (some .long) ({ frames := 0, cells := 0, slots := 0, locals := 0 } : Room) n0 #[(.long x), (.long z)] h (R1 fun r h' => r = .long (max64 x z) ∧ h = h') := by
  refine Con.of (ls := [.val (.long x), .second, .val (.long z), .second]) own_pf_b2 (fun m => by first | (simp [entryFrame, mkF, argsToLocals, Value.category]; done) | rfl) fun k K => ?_
  refine WP.lloadN K 1 own_b2_0 rfl rfl ?_
  refine WP.lloadN K 2 own_b2_1 rfl rfl ?_
  refine WP.lcmp K 3 own_b2_2 rfl ?_
  refine WP.ifl_lt K 10 6 own_b2_3 (by decide) rfl (fun c3 => ?_) (fun c3 => ?_)
  · skip
    refine WP.lloadN K 11 own_b2_10 rfl rfl ?_
    refine WP.lret K rfl own_b2_11 ?_ (by decide) (by decide)
    refine ⟨_, rfl, ?_, rfl⟩
    simp only [max64]; congr 1; split <;> first | rfl | exact i64_eq (by omega) | (exfalso; omega)
  · skip
    refine WP.lloadN K 7 own_b2_6 rfl rfl ?_
    refine WP.goto K 11 own_b2_7 (by decide) ?_
    refine WP.lret K rfl own_b2_11 ?_ (by decide) (by decide)
    refine ⟨_, rfl, ?_, rfl⟩
    simp only [max64]; congr 1; split <;> first | rfl | exact i64_eq (by omega) | (exfalso; omega)
theorem own_b3_0 : decode prog_16_method_1_code 0 = .ok (.aload_n 0, 1) := by decide +kernel
theorem own_b3_1 : decode prog_16_method_1_code 1 = .ok (.invokespecial 1, 3) := by decide +kernel
theorem own_b3_4 : decode prog_16_method_1_code 4 = .ok (.aload_n 0, 1) := by decide +kernel
theorem own_b3_5 : decode prog_16_method_1_code 5 = .ok (.sipush 128, 3) := by decide +kernel
theorem own_b3_8 : decode prog_16_method_1_code 8 = .ok (.newarray .long, 2) := by decide +kernel
theorem own_b3_10 : decode prog_16_method_1_code 10 = .ok (.putfield 7, 3) := by decide +kernel
theorem own_b3_13 : decode prog_16_method_1_code 13 = .ok (.return_, 1) := by decide +kernel
theorem own_pf_b3 : plainFor (⟨"com/example/vestline/vestline/io/Marks", "<init>", "()V"⟩ : MethodName) = true := by first | exact plainFor_of_name (by first | (simp [plainName, overriddenIn, x]; done) | decide +kernel) | decide +kernel
set_option maxRecDepth 65536 in
set_option maxHeartbeats 40000000 in
theorem own_init (l : Launch) (Z : State) (a0 : Array Value) (hw : ∀ d ∈ tables_1, d.before a0 Z = true) (n0 : Nat) (h : Heap) (o : Nat) (Z0 : n0 ≤ h.size) (Ex : Exa Z h o "com/example/vestline/vestline/io/Marks") (v1 : Value) (Fp : Fld Z h o "com/example/vestline/vestline/io/Marks" "pairs" "[J" v1) (Fc : Fld Z h o "com/example/vestline/vestline/io/Marks" "count" "I" (.int 0)) (n0_o : n0 ≤ o) :
    Con l Z (⟨"com/example/vestline/vestline/io/Marks", "<init>", "()V"⟩ : MethodName) prog_16_method_1_code 1 none ({ frames := 1, cells := 1, slots := 128, locals := 13 } : Room) n0 #[(.ref o)] h (R0 fun h' => Keep h h' [o] ∧ ∃ p, o < p ∧ n0 ≤ p ∧ h.size ≤ p ∧ Fld Z h' o "com/example/vestline/vestline/io/Marks" "pairs" "[J" (.ref p) ∧ Fld Z h' o "com/example/vestline/vestline/io/Marks" "count" "I" (.int 0) ∧ ArJ Z h' p (List.replicate 128 0)) := by
  refine Con.of (ls := [.val (.ref o)]) own_pf_b3 (fun m => by first | (simp [entryFrame, mkF, argsToLocals, Value.category]; done) | rfl) fun k K => ?_
  have k_128 : (128 : Int32).toInt = 128 := rfl
  have Kp := Keep.refl h [o]
  refine WP.aloadN K 1 own_b3_0 rfl rfl rfl ?_
  refine WP.initO K 4 0 (hw _ (List.mem_of_getElem? (i := 14) rfl)) (hw _ (List.mem_of_getElem? (i := 15) rfl)) (hw _ (List.mem_of_getElem? (i := 16) rfl)) own_b3_1 rfl rfl (by decide) (Nat.le_of_eq rfl) (by decide) ?_
  refine WP.aloadN K 5 own_b3_4 rfl rfl rfl ?_
  refine WP.sipush K (128 : Int32) 8 own_b3_5 rfl rfl ?_
  refine WP.newarray K 10 128 128 1 128 (hw _ (List.mem_of_getElem? (i := 7) rfl)) own_b3_8 rfl rfl (Nat.le_refl _) (by decide) rfl rfl (by decide) (by decide) (fun h1 p z_p E2 V3 => ?_)
  have l_o_p : o < p := z_p ▸ Ex.lt
  have n0_p : n0 ≤ p := z_p ▸ Z0
  have Z0 : n0 ≤ (h1).size := Nat.le_trans Z0 E2.1
  have Ex := Ex.ext E2
  have Fp := Fp.ext E2
  have Fc := Fc.ext E2
  have Kp := Kp.ext E2
  have A_p := ArJ.of_new V3
  refine WP.putfield K (host := "") (a := o) 13 (Or.inl (hw _ (List.mem_of_getElem? (i := 17) rfl))) Via.refl Fp Ex (Or.inl (hw _ (List.mem_of_getElem? (i := 18) rfl))) (hw _ (List.mem_of_getElem? (i := 9) rfl)) (ty := (.array .long)) (by decide) rfl rfl own_b3_10 rfl n0_o (fun h4 W5 => ?_)
  have Z0 : n0 ≤ (h4).size := by rw [W5.size]; exact Z0
  have Ex := Ex.wr W5
  have Fp := Fp.same W5
  have Fc := Fc.other W5 (Or.inr (slot_ne (Or.inl (hw _ (List.mem_of_getElem? (i := 25) rfl))) (Or.inl (hw _ (List.mem_of_getElem? (i := 18) rfl))) (by decide) (t := .int) (t' := (.array .long)) (by decide) (by decide)))
  have Kp := Kp.wr W5 (by first | exact Or.inl (by simp) | exact Or.inr (by omega))
  have A_p := A_p.other W5 (ne_addr (by omega))
  refine WP.retV K rfl own_b3_13 ?_ (by decide) (by decide)
  exact ⟨rfl, Kp, p, l_o_p, n0_p, Nat.le_of_eq z_p.symm, Fp, Fc, A_p⟩
theorem own_b5_0 : decode prog_16_method_2_code 0 = .ok (.iconst 2, 1) := by decide +kernel
theorem own_b5_1 : decode prog_16_method_2_code 1 = .ok (.aload_n 0, 1) := by decide +kernel
theorem own_b5_2 : decode prog_16_method_2_code 2 = .ok (.getfield 13, 3) := by decide +kernel
theorem own_b5_5 : decode prog_16_method_2_code 5 = .ok (.imul, 1) := by decide +kernel
theorem own_b5_6 : decode prog_16_method_2_code 6 = .ok (.aload_n 0, 1) := by decide +kernel
theorem own_b5_7 : decode prog_16_method_2_code 7 = .ok (.getfield 7, 3) := by decide +kernel
theorem own_b5_10 : decode prog_16_method_2_code 10 = .ok (.arraylength, 1) := by decide +kernel
theorem own_b5_11 : decode prog_16_method_2_code 11 = .ok (.if_icmp .ne 21, 3) := by decide +kernel
theorem own_b5_14 : decode prog_16_method_2_code 14 = .ok (.aload_n 0, 1) := by decide +kernel
theorem own_b5_15 : decode prog_16_method_2_code 15 = .ok (.aload_n 0, 1) := by decide +kernel
theorem own_b5_16 : decode prog_16_method_2_code 16 = .ok (.getfield 7, 3) := by decide +kernel
theorem own_b5_19 : decode prog_16_method_2_code 19 = .ok (.iconst 2, 1) := by decide +kernel
theorem own_b5_20 : decode prog_16_method_2_code 20 = .ok (.aload_n 0, 1) := by decide +kernel
theorem own_b5_21 : decode prog_16_method_2_code 21 = .ok (.getfield 7, 3) := by decide +kernel
theorem own_b5_24 : decode prog_16_method_2_code 24 = .ok (.arraylength, 1) := by decide +kernel
theorem own_b5_25 : decode prog_16_method_2_code 25 = .ok (.imul, 1) := by decide +kernel
theorem own_b5_26 : decode prog_16_method_2_code 26 = .ok (.invokestatic 17, 3) := by decide +kernel
theorem own_b5_29 : decode prog_16_method_2_code 29 = .ok (.putfield 7, 3) := by decide +kernel
theorem own_b5_32 : decode prog_16_method_2_code 32 = .ok (.aload_n 0, 1) := by decide +kernel
theorem own_b5_33 : decode prog_16_method_2_code 33 = .ok (.getfield 7, 3) := by decide +kernel
theorem own_b5_36 : decode prog_16_method_2_code 36 = .ok (.iconst 2, 1) := by decide +kernel
theorem own_b5_37 : decode prog_16_method_2_code 37 = .ok (.aload_n 0, 1) := by decide +kernel
theorem own_b5_38 : decode prog_16_method_2_code 38 = .ok (.getfield 13, 3) := by decide +kernel
theorem own_b5_41 : decode prog_16_method_2_code 41 = .ok (.imul, 1) := by decide +kernel
theorem own_b5_42 : decode prog_16_method_2_code 42 = .ok (.lload_n 1, 1) := by decide +kernel
theorem own_b5_43 : decode prog_16_method_2_code 43 = .ok (.lastore, 1) := by decide +kernel
theorem own_b5_44 : decode prog_16_method_2_code 44 = .ok (.aload_n 0, 1) := by decide +kernel
theorem own_b5_45 : decode prog_16_method_2_code 45 = .ok (.getfield 7, 3) := by decide +kernel
theorem own_b5_48 : decode prog_16_method_2_code 48 = .ok (.iconst 2, 1) := by decide +kernel
theorem own_b5_49 : decode prog_16_method_2_code 49 = .ok (.aload_n 0, 1) := by decide +kernel
theorem own_b5_50 : decode prog_16_method_2_code 50 = .ok (.getfield 13, 3) := by decide +kernel
theorem own_b5_53 : decode prog_16_method_2_code 53 = .ok (.imul, 1) := by decide +kernel
theorem own_b5_54 : decode prog_16_method_2_code 54 = .ok (.iconst 1, 1) := by decide +kernel
theorem own_b5_55 : decode prog_16_method_2_code 55 = .ok (.iadd, 1) := by decide +kernel
theorem own_b5_56 : decode prog_16_method_2_code 56 = .ok (.lload_n 3, 1) := by decide +kernel
theorem own_b5_57 : decode prog_16_method_2_code 57 = .ok (.lastore, 1) := by decide +kernel
theorem own_b5_58 : decode prog_16_method_2_code 58 = .ok (.aload_n 0, 1) := by decide +kernel
theorem own_b5_59 : decode prog_16_method_2_code 59 = .ok (.dup, 1) := by decide +kernel
theorem own_b5_60 : decode prog_16_method_2_code 60 = .ok (.getfield 13, 3) := by decide +kernel
theorem own_b5_63 : decode prog_16_method_2_code 63 = .ok (.iconst 1, 1) := by decide +kernel
theorem own_b5_64 : decode prog_16_method_2_code 64 = .ok (.iadd, 1) := by decide +kernel
theorem own_b5_65 : decode prog_16_method_2_code 65 = .ok (.putfield 13, 3) := by decide +kernel
theorem own_b5_68 : decode prog_16_method_2_code 68 = .ok (.return_, 1) := by decide +kernel
theorem own_pf_b5 : plainFor (⟨"com/example/vestline/vestline/io/Marks", "note", "(JJ)V"⟩ : MethodName) = true := by first | exact plainFor_of_name (by first | (simp [plainName, overriddenIn, x]; done) | decide +kernel) | decide +kernel
set_option maxRecDepth 65536 in
set_option maxHeartbeats 40000000 in
theorem own_note (l : Launch) (Z : State) (a0 : Array Value) (hw : ∀ d ∈ tables_1, d.before a0 Z = true) (n0 : Nat) (h : Heap) (o p : Nat) (t v : Int64) (c : Int32) (n : Nat) (xs : List Int64) (Ex : Exa Z h o "com/example/vestline/vestline/io/Marks") (Fp : Fld Z h o "com/example/vestline/vestline/io/Marks" "pairs" "[J" (.ref p)) (Fc : Fld Z h o "com/example/vestline/vestline/io/Marks" "count" "I" (.int c)) (A_p : ArJ Z h p xs) (hc : c.toInt = (n : Nat)) (hn : 2 * n + 1 < xs.length) (n0_o : n0 ≤ o) (n0_p : n0 ≤ p) (ne : o ≠ p) :
    Con l Z (⟨"com/example/vestline/vestline/io/Marks", "note", "(JJ)V"⟩ : MethodName) prog_16_method_2_code 5 none ({ frames := 0, cells := 0, slots := 0, locals := 0 } : Room) n0 #[(.ref o), (.long t), (.long v)] h (R0 fun h' => Keep h h' [o, p] ∧ Fld Z h' o "com/example/vestline/vestline/io/Marks" "pairs" "[J" (.ref p) ∧ Fld Z h' o "com/example/vestline/vestline/io/Marks" "count" "I" (.int (c + 1)) ∧ ArJ Z h' p ((xs.set (2 * n) t).set (2 * n + 1) v)) := by
  refine Con.of (ls := [.val (.ref o), .val (.long t), .second, .val (.long v), .second]) own_pf_b5 (fun m => by first | (simp [entryFrame, mkF, argsToLocals, Value.category]; done) | rfl) fun k K => ?_
  have k_1 : (1 : Int32).toInt = 1 := rfl
  have k_2 : (2 : Int32).toInt = 2 := rfl
  have Kp := Keep.refl h [o, p]
  have hlen := A_p.len
  obtain ⟨z, hz⟩ := i32_of A_p.len
  have e2 : ((2 : Int32) * c).toInt = ((2 * n : Nat) : Int) := by rw [i32_mul (by rw [k_2, hc]; omega) (by rw [k_2, hc]; omega), k_2, hc]; omega
  have e3 : (((2 : Int32) * c) + (1 : Int32)).toInt = ((2 * n + 1 : Nat) : Int) := inc32 e2 (by omega)
  refine WP.iconst K (2 : Int32) 1 own_b5_0 rfl rfl ?_
  refine WP.aloadN K 2 own_b5_1 rfl rfl rfl ?_
  refine WP.getfield K (host := "") 5 (Or.inl (hw _ (List.mem_of_getElem? (i := 24) rfl))) Via.refl Fc own_b5_2 rfl ?_
  refine WP.imul K 6 own_b5_5 rfl ?_
  refine WP.aloadN K 7 own_b5_6 rfl rfl rfl ?_
  refine WP.getfield K (host := "") 10 (Or.inl (hw _ (List.mem_of_getElem? (i := 17) rfl))) Via.refl Fp own_b5_7 rfl ?_
  refine WP.arraylength K z 11 A_p (by rw [hz]; simp) own_b5_10 rfl ?_
  refine WP.icmp_ne K 32 14 own_b5_11 (by decide) rfl (fun c11 => ?_) (fun c11 => ?_)
  · skip
    refine WP.aloadN K 33 own_b5_32 rfl rfl rfl ?_
    refine WP.getfield K (host := "") 36 (Or.inl (hw _ (List.mem_of_getElem? (i := 17) rfl))) Via.refl Fp own_b5_33 rfl ?_
    refine WP.iconst K (2 : Int32) 37 own_b5_36 rfl rfl ?_
    refine WP.aloadN K 38 own_b5_37 rfl rfl rfl ?_
    refine WP.getfield K (host := "") 41 (Or.inl (hw _ (List.mem_of_getElem? (i := 24) rfl))) Via.refl Fc own_b5_38 rfl ?_
    refine WP.imul K 42 own_b5_41 rfl ?_
    refine WP.lloadN K 43 own_b5_42 rfl rfl ?_
    refine WP.lastore K 44 (2 * n) A_p e2 (by omega) own_b5_43 rfl n0_p (fun h1 K2 A_p => ?_)
    have Ex := Ex.keep K2
    have Fp := Fp.keep K2 (nm1 (by omega))
    have Fc := Fc.keep K2 (nm1 (by omega))
    have Kp := Kp.trans K2 (ks1 (by first | exact Or.inl (by simp) | exact Or.inr (by omega)))
    refine WP.aloadN K 45 own_b5_44 rfl rfl rfl ?_
    refine WP.getfield K (host := "") 48 (Or.inl (hw _ (List.mem_of_getElem? (i := 17) rfl))) Via.refl Fp own_b5_45 rfl ?_
    refine WP.iconst K (2 : Int32) 49 own_b5_48 rfl rfl ?_
    refine WP.aloadN K 50 own_b5_49 rfl rfl rfl ?_
    refine WP.getfield K (host := "") 53 (Or.inl (hw _ (List.mem_of_getElem? (i := 24) rfl))) Via.refl Fc own_b5_50 rfl ?_
    refine WP.imul K 54 own_b5_53 rfl ?_
    refine WP.iconst K (1 : Int32) 55 own_b5_54 rfl rfl ?_
    refine WP.iadd K 56 own_b5_55 rfl ?_
    refine WP.lloadN K 57 own_b5_56 rfl rfl ?_
    refine WP.lastore K 58 (2 * n + 1) A_p e3 (by rw [List.length_set]; omega) own_b5_57 rfl n0_p (fun h3 K4 A_p => ?_)
    have Ex := Ex.keep K4
    have Fp := Fp.keep K4 (nm1 (by omega))
    have Fc := Fc.keep K4 (nm1 (by omega))
    have Kp := Kp.trans K4 (ks1 (by first | exact Or.inl (by simp) | exact Or.inr (by omega)))
    refine WP.aloadN K 59 own_b5_58 rfl rfl rfl ?_
    refine WP.dup K 60 own_b5_59 rfl rfl ?_
    refine WP.getfield K (host := "") 63 (Or.inl (hw _ (List.mem_of_getElem? (i := 24) rfl))) Via.refl Fc own_b5_60 rfl ?_
    refine WP.iconst K (1 : Int32) 64 own_b5_63 rfl rfl ?_
    refine WP.iadd K 65 own_b5_64 rfl ?_
    refine WP.putfield K (host := "") (a := o) 68 (Or.inl (hw _ (List.mem_of_getElem? (i := 24) rfl))) Via.refl Fc Ex (Or.inl (hw _ (List.mem_of_getElem? (i := 25) rfl))) (hw _ (List.mem_of_getElem? (i := 9) rfl)) (ty := .int) (by decide) rfl rfl own_b5_65 rfl n0_o (fun h5 W6 => ?_)
    have Ex := Ex.wr W6
    have Fp := Fp.other W6 (Or.inr (slot_ne (Or.inl (hw _ (List.mem_of_getElem? (i := 18) rfl))) (Or.inl (hw _ (List.mem_of_getElem? (i := 25) rfl))) (by decide) (t := (.array .long)) (t' := .int) (by decide) (by decide)))
    have Fc := Fc.same W6
    have A_p := A_p.other W6 (ne_addr (by omega))
    have Kp := Kp.wr W6 (by first | exact Or.inl (by simp) | exact Or.inr (by omega))
    refine WP.retV K rfl own_b5_68 ?_ (by decide) (by decide)
    exact ⟨rfl, Kp, Fp, Fc, A_p⟩
  · skip
    exfalso; omega
theorem own_b6_0 : decode prog_16_method_3_code 0 = .ok (.iconst 0, 1) := by decide +kernel
theorem own_b6_1 : decode prog_16_method_3_code 1 = .ok (.istore_n 3, 1) := by decide +kernel
theorem own_b6_2 : decode prog_16_method_3_code 2 = .ok (.aload_n 0, 1) := by decide +kernel
theorem own_b6_3 : decode prog_16_method_3_code 3 = .ok (.getfield 13, 3) := by decide +kernel
theorem own_b6_6 : decode prog_16_method_3_code 6 = .ok (.istore 4, 2) := by decide +kernel
theorem own_b6_8 : decode prog_16_method_3_code 8 = .ok (.iload 4, 2) := by decide +kernel
theorem own_b6_10 : decode prog_16_method_3_code 10 = .ok (.iload_n 3, 1) := by decide +kernel
theorem own_b6_11 : decode prog_16_method_3_code 11 = .ok (.isub, 1) := by decide +kernel
theorem own_b6_12 : decode prog_16_method_3_code 12 = .ok (.iconst 1, 1) := by decide +kernel
theorem own_b6_13 : decode prog_16_method_3_code 13 = .ok (.if_icmp .le 38, 3) := by decide +kernel
theorem own_b6_16 : decode prog_16_method_3_code 16 = .ok (.iload_n 3, 1) := by decide +kernel
theorem own_b6_17 : decode prog_16_method_3_code 17 = .ok (.iload 4, 2) := by decide +kernel
theorem own_b6_19 : decode prog_16_method_3_code 19 = .ok (.iadd, 1) := by decide +kernel
theorem own_b6_20 : decode prog_16_method_3_code 20 = .ok (.iconst 1, 1) := by decide +kernel
theorem own_b6_21 : decode prog_16_method_3_code 21 = .ok (.iushr, 1) := by decide +kernel
theorem own_b6_22 : decode prog_16_method_3_code 22 = .ok (.istore 5, 2) := by decide +kernel
theorem own_b6_24 : decode prog_16_method_3_code 24 = .ok (.aload_n 0, 1) := by decide +kernel
theorem own_b6_25 : decode prog_16_method_3_code 25 = .ok (.getfield 7, 3) := by decide +kernel
theorem own_b6_28 : decode prog_16_method_3_code 28 = .ok (.iconst 2, 1) := by decide +kernel
theorem own_b6_29 : decode prog_16_method_3_code 29 = .ok (.iload 5, 2) := by decide +kernel
theorem own_b6_31 : decode prog_16_method_3_code 31 = .ok (.imul, 1) := by decide +kernel
theorem own_b6_32 : decode prog_16_method_3_code 32 = .ok (.laload, 1) := by decide +kernel
theorem own_b6_33 : decode prog_16_method_3_code 33 = .ok (.lload_n 1, 1) := by decide +kernel
theorem own_b6_34 : decode prog_16_method_3_code 34 = .ok (.lcmp, 1) := by decide +kernel
theorem own_b6_35 : decode prog_16_method_3_code 35 = .ok (.ifCond .gt 9, 3) := by decide +kernel
theorem own_b6_38 : decode prog_16_method_3_code 38 = .ok (.iload 5, 2) := by decide +kernel
theorem own_b6_40 : decode prog_16_method_3_code 40 = .ok (.istore_n 3, 1) := by decide +kernel
theorem own_b6_41 : decode prog_16_method_3_code 41 = .ok (.goto 7, 3) := by decide +kernel
theorem own_b6_44 : decode prog_16_method_3_code 44 = .ok (.iload 5, 2) := by decide +kernel
theorem own_b6_46 : decode prog_16_method_3_code 46 = .ok (.istore 4, 2) := by decide +kernel
theorem own_b6_48 : decode prog_16_method_3_code 48 = .ok (.goto (-40), 3) := by decide +kernel
theorem own_b6_51 : decode prog_16_method_3_code 51 = .ok (.iload_n 3, 1) := by decide +kernel
theorem own_b6_52 : decode prog_16_method_3_code 52 = .ok (.ireturn, 1) := by decide +kernel
theorem own_pf_b6 : plainFor (⟨"com/example/vestline/vestline/io/Marks", "lastAtOrBefore", "(J)I"⟩ : MethodName) = true := by first | exact plainFor_of_name (by first | (simp [plainName, overriddenIn, x]; done) | decide +kernel) | decide +kernel
set_option maxRecDepth 65536 in
set_option maxHeartbeats 40000000 in
theorem own_last (l : Launch) (Z : State) (a0 : Array Value) (hw : ∀ d ∈ tables_1, d.before a0 Z = true) (n0 : Nat) (h : Heap) (o p : Nat) (qv : Int64) (c : Int32) (n : Nat) (xs : List Int64) (Fp : Fld Z h o "com/example/vestline/vestline/io/Marks" "pairs" "[J" (.ref p)) (Fc : Fld Z h o "com/example/vestline/vestline/io/Marks" "count" "I" (.int c)) (A_p : ArJ Z h p xs) (hc : c.toInt = (n : Nat)) (hn : 2 * n ≤ xs.length) :
    Con l Z (⟨"com/example/vestline/vestline/io/Marks", "lastAtOrBefore", "(J)I"⟩ : MethodName) prog_16_method_3_code 6 (some .int) ({ frames := 0, cells := 0, slots := 0, locals := 0 } : Room) n0 #[(.ref o), (.long qv)] h (R1 fun r h' => (∃ (z : Int32) (m : Nat), r = .int z ∧ z.toInt = (m : Nat) ∧ (m < n ∨ m = 0) ∧ (m = 0 ∨ (own_at xs m).toInt ≤ qv.toInt) ∧ (n ≤ m + 1 ∨ qv.toInt < (own_at xs (m + 1)).toInt)) ∧ h = h') := by
  refine Con.of (ls := [.val (.ref o), .val (.long qv), .second, .unset, .unset, .unset]) own_pf_b6 (fun m => by first | (simp [entryFrame, mkF, argsToLocals, Value.category]; done) | rfl) fun k K => ?_
  have k_0 : (0 : Int32).toInt = 0 := rfl
  have k_1 : (1 : Int32).toInt = 1 := rfl
  have k_2 : (2 : Int32).toInt = 2 := rfl
  have hlen := A_p.len
  have loop : ∀ (f m e : Nat) (lo hi : Int32) (s5 : Slot) (h_s5 : One s5), e - m ≤ f → lo.toInt = (m : Nat) → hi.toInt = (e : Nat) → m ≤ e → e ≤ n → (m < e ∨ (m = 0 ∧ n = 0)) → (m = 0 ∨ (own_at xs m).toInt ≤ qv.toInt) → (e = n ∨ qv.toInt < (own_at xs e).toInt) →
      WP k h 0 0 8 [.val (.ref o), .val (.long qv), .second, .val (.int lo), .val (.int hi), s5] [] := by
    intro f
    induction f with
    | zero =>
      intro m e lo hi s5 h_s5 hf hlo hhi hme hen hlt h1 h2
      refine WP.iload K 10 own_b6_8 rfl rfl ?_
      refine WP.iloadN K 11 own_b6_10 rfl rfl ?_
      refine WP.isub K 12 own_b6_11 rfl ?_
      refine WP.iconst K (1 : Int32) 13 own_b6_12 rfl rfl ?_
      have es : (hi - lo).toInt = hi.toInt - lo.toInt := i32_sub (by omega) (by omega)
      refine WP.icmp_le K 51 16 own_b6_13 (by decide) rfl (fun c13 => ?_) (fun c13 => ?_)
      · skip
        refine WP.iloadN K 52 own_b6_51 rfl rfl ?_
        refine WP.iret K rfl (Or.inl rfl) rfl own_b6_52 ?_ (by decide) (by decide)
        exact ⟨_, rfl, ⟨lo, m, rfl, hlo, by omega, h1, by rcases h2 with q | q <;> first | exact Or.inl (by omega) | (by_cases z : n ≤ m + 1; exact Or.inl z; exact Or.inr (by rw [show m + 1 = e by omega]; exact q))⟩, rfl⟩
      · skip
        exfalso; omega
    | succ f ih =>
      intro m e lo hi s5 h_s5 hf hlo hhi hme hen hlt h1 h2
      refine WP.iload K 10 own_b6_8 rfl rfl ?_
      refine WP.iloadN K 11 own_b6_10 rfl rfl ?_
      refine WP.isub K 12 own_b6_11 rfl ?_
      refine WP.iconst K (1 : Int32) 13 own_b6_12 rfl rfl ?_
      have es : (hi - lo).toInt = hi.toInt - lo.toInt := i32_sub (by omega) (by omega)
      refine WP.icmp_le K 51 16 own_b6_13 (by decide) rfl (fun c13 => ?_) (fun c13 => ?_)
      · skip
        refine WP.iloadN K 52 own_b6_51 rfl rfl ?_
        refine WP.iret K rfl (Or.inl rfl) rfl own_b6_52 ?_ (by decide) (by decide)
        exact ⟨_, rfl, ⟨lo, m, rfl, hlo, by omega, h1, by rcases h2 with q | q <;> first | exact Or.inl (by omega) | (by_cases z : n ≤ m + 1; exact Or.inl z; exact Or.inr (by rw [show m + 1 = e by omega]; exact q))⟩, rfl⟩
      · skip
        have ea : (lo + hi).toInt = lo.toInt + hi.toInt := i32_add (by omega) (by omega)
        have em : (XT.ushr (lo + hi) (1 : Int32)).toInt = (((m + e) / 2 : Nat) : Int) := by rw [ushr1 (by omega), ea]; omega
        generalize hM : (m + e) / 2 = M at em
        have ei : ((2 : Int32) * (XT.ushr (lo + hi) (1 : Int32))).toInt = ((2 * M : Nat) : Int) := by rw [i32_mul (by rw [k_2, em]; omega) (by rw [k_2, em]; omega), k_2, em]; omega
        have hv := own_at_get (xs := xs) (i := M) (by omega)
        refine WP.iloadN K 17 own_b6_16 rfl rfl ?_
        refine WP.iload K 19 own_b6_17 rfl rfl ?_
        refine WP.iadd K 20 own_b6_19 rfl ?_
        refine WP.iconst K (1 : Int32) 21 own_b6_20 rfl rfl ?_
        refine WP.iushr K 22 own_b6_21 rfl ?_
        refine WP.istore K 24 [.val (.ref o), .val (.long qv), .second, .val (.int lo), .val (.int hi), .val (.int (XT.ushr (lo + hi) (1 : Int32)))] own_b6_22 rfl (st1 rfl h_s5 rfl) ?_
        refine WP.aloadN K 25 own_b6_24 rfl rfl rfl ?_
        refine WP.getfield K (host := "") 28 (Or.inl (hw _ (List.mem_of_getElem? (i := 17) rfl))) Via.refl Fp own_b6_25 rfl ?_
        refine WP.iconst K (2 : Int32) 29 own_b6_28 rfl rfl ?_
        refine WP.iload K 31 own_b6_29 rfl rfl ?_
        refine WP.imul K 32 own_b6_31 rfl ?_
        refine WP.laload K 33 (2 * M) A_p ei hv own_b6_32 rfl ?_
        refine WP.lloadN K 34 own_b6_33 rfl rfl ?_
        refine WP.lcmp K 35 own_b6_34 rfl ?_
        refine WP.ifl_gt K 44 38 own_b6_35 (by decide) rfl (fun c35 => ?_) (fun c35 => ?_)
        · skip
          refine WP.iload K 46 own_b6_44 rfl rfl ?_
          refine WP.istore K 48 [.val (.ref o), .val (.long qv), .second, .val (.int lo), .val (.int (XT.ushr (lo + hi) (1 : Int32))), .val (.int (XT.ushr (lo + hi) (1 : Int32)))] own_b6_46 rfl rfl ?_
          refine WP.goto K 8 own_b6_48 (by decide) ?_
          exact ih m M _ _ _ (One.val rfl) (by omega) hlo em (by omega) (by omega) (by omega) h1 (Or.inr c35)
        · skip
          refine WP.iload K 40 own_b6_38 rfl rfl ?_
          refine WP.istoreN K 41 [.val (.ref o), .val (.long qv), .second, .val (.int (XT.ushr (lo + hi) (1 : Int32))), .val (.int hi), .val (.int (XT.ushr (lo + hi) (1 : Int32)))] own_b6_40 rfl rfl ?_
          refine WP.goto K 48 own_b6_41 (by decide) ?_
          refine WP.goto K 8 own_b6_48 (by decide) ?_
          exact ih M e _ _ _ (One.val rfl) (by omega) em hhi (by omega) (by omega) (by omega) (Or.inr c35) h2
  refine WP.iconst K (0 : Int32) 1 own_b6_0 rfl rfl ?_
  refine WP.istoreN K 2 [.val (.ref o), .val (.long qv), .second, .val (.int (0 : Int32)), .unset, .unset] own_b6_1 rfl rfl ?_
  refine WP.aloadN K 3 own_b6_2 rfl rfl rfl ?_
  refine WP.getfield K (host := "") 6 (Or.inl (hw _ (List.mem_of_getElem? (i := 24) rfl))) Via.refl Fc own_b6_3 rfl ?_
  refine WP.istore K 8 [.val (.ref o), .val (.long qv), .second, .val (.int (0 : Int32)), .val (.int c), .unset] own_b6_6 rfl rfl ?_
  exact loop n 0 n _ _ _ One.u (by omega) rfl hc (by omega) (by omega) (by omega) (Or.inl rfl) (Or.inl rfl)
theorem own_pf_law : plainFor x = true := by first | exact plainFor_of_name (by first | (simp [plainName, overriddenIn, x]; done) | decide +kernel) | decide +kernel
theorem own_pd_0 : parseMethodDescriptor "(JJ)J" = some ⟨[.long, .long], some .long⟩ := by decide +kernel
theorem own_pd_1 : parseMethodDescriptor "()V" = some ⟨[], none⟩ := by decide +kernel
theorem own_pd_2 : parseMethodDescriptor "(J)I" = some ⟨[.long], some .int⟩ := by decide +kernel
theorem own_pd_3 : parseMethodDescriptor "(JJ)V" = some ⟨[.long, .long], none⟩ := by decide +kernel
set_option maxRecDepth 65536 in
set_option maxHeartbeats 40000000 in
theorem own_law (l : Launch) (Z : State) (a0 : Array Value) (hw : ∀ d ∈ tables_1, d.before a0 Z = true) (n0 : Nat) (h : Heap) (a b cc dd qq : Int64) (kk : Int32) (Z0 : n0 ≤ h.size) :
    Con l Z x code maxLocals ret room_1 n0 #[(.long a), (.long b), (.long cc), (.long dd), (.long qq), (.int kk)] h (R1 fun r h' => r = .int 1) := by
  refine Con.of (ls := [.val (.long a), .second, .val (.long b), .second, .val (.long cc), .second, .val (.long dd), .second, .val (.long qq), .second, .val (.int kk), .unset, .unset, .unset, .unset, .unset, .unset, .unset, .unset, .unset, .unset, .unset, .unset, .unset, .unset, .unset, .unset, .unset, .unset, .unset, .unset, .unset, .unset, .unset, .unset, .unset, .unset, .unset]) own_pf_law (fun m => by first | (simp [entryFrame, mkF, argsToLocals, Value.category, maxLocals]; done) | rfl) fun k K => ?_
  have k_0 : (0 : Int32).toInt = 0 := rfl
  have kL_0 : (0 : Int64).toInt = 0 := rfl
  have k_1 : (1 : Int32).toInt = 1 := rfl
  have kL_1 : (1 : Int64).toInt = 1 := rfl
  have k_15 : (15 : Int32).toInt = 15 := rfl
  have k_2 : (2 : Int32).toInt = 2 := rfl
  have kL_2 : (2 : Int64).toInt = 2 := rfl
  have k_3 : (3 : Int32).toInt = 3 := rfl
  have kL_3 : (3 : Int64).toInt = 3 := rfl
  have k_4 : (4 : Int32).toInt = 4 := rfl
  have k_5 : (5 : Int32).toInt = 5 := rfl
  have k_7 : (7 : Int32).toInt = 7 := rfl
  have k_8 : (8 : Int32).toInt = 8 := rfl
  obtain ⟨so1, so2, so3⟩ := own_sort a b cc dd
  refine WP.lloadN K 1 at_0 rfl rfl ?_
  refine WP.lloadN K 2 at_1 rfl rfl ?_
  refine WP.callS K 5 0 0 0 [(.long a), (.long b)] [] (hw _ (List.mem_of_getElem? (i := 0) rfl)) (hw _ (List.mem_of_getElem? (i := 1) rfl)) (hw _ (List.mem_of_getElem? (i := 2) rfl)) (hw _ (List.mem_of_getElem? (i := 3) rfl)) (by decide) own_pd_0 rfl rfl rfl (by decide) (by decide) (Nat.le_of_eq rfl) rfl at_2 rfl rfl rfl (by decide) (by decide) (own_min l Z a0 hw n0 h a b ) (r1_next fun r3 h1 q2 => ?_)
  obtain ⟨rfl, rfl⟩ := q2
  refine WP.lstore K 7 [.val (.long a), .second, .val (.long b), .second, .val (.long cc), .second, .val (.long dd), .second, .val (.long qq), .second, .val (.int kk), .val (.long (min64 a b)), .second, .unset, .unset, .unset, .unset, .unset, .unset, .unset, .unset, .unset, .unset, .unset, .unset, .unset, .unset, .unset, .unset, .unset, .unset, .unset, .unset, .unset, .unset, .unset, .unset, .unset] at_5 rfl rfl ?_
  refine WP.lloadN K 8 at_7 rfl rfl ?_
  refine WP.lloadN K 9 at_8 rfl rfl ?_
  refine WP.callS K 12 0 0 0 [(.long a), (.long b)] [] (hw _ (List.mem_of_getElem? (i := 4) rfl)) (hw _ (List.mem_of_getElem? (i := 5) rfl)) (hw _ (List.mem_of_getElem? (i := 2) rfl)) (hw _ (List.mem_of_getElem? (i := 6) rfl)) (by decide) own_pd_0 rfl rfl rfl (by decide) (by decide) (Nat.le_of_eq rfl) rfl at_9 rfl rfl rfl (by decide) (by decide) (own_max l Z a0 hw n0 h a b ) (r1_next fun r6 h4 q5 => ?_)
  obtain ⟨rfl, rfl⟩ := q5
  refine WP.lstore K 14 [.val (.long a), .second, .val (.long b), .second, .val (.long cc), .second, .val (.long dd), .second, .val (.long qq), .second, .val (.int kk), .val (.long (min64 a b)), .second, .val (.long (max64 a b)), .second, .unset, .unset, .unset, .unset, .unset, .unset, .unset, .unset, .unset, .unset, .unset, .unset, .unset, .unset, .unset, .unset, .unset, .unset, .unset, .unset, .unset, .unset, .unset] at_12 rfl rfl ?_
  refine WP.lload K 16 at_14 rfl rfl ?_
  refine WP.lload K 18 at_16 rfl rfl ?_
  refine WP.callS K 21 0 0 0 [(.long cc), (.long dd)] [] (hw _ (List.mem_of_getElem? (i := 0) rfl)) (hw _ (List.mem_of_getElem? (i := 1) rfl)) (hw _ (List.mem_of_getElem? (i := 2) rfl)) (hw _ (List.mem_of_getElem? (i := 3) rfl)) (by decide) own_pd_0 rfl rfl rfl (by decide) (by decide) (Nat.le_of_eq rfl) rfl at_18 rfl rfl rfl (by decide) (by decide) (own_min l Z a0 hw n0 h cc dd ) (r1_next fun r9 h7 q8 => ?_)
  obtain ⟨rfl, rfl⟩ := q8
  refine WP.lstore K 23 [.val (.long a), .second, .val (.long b), .second, .val (.long cc), .second, .val (.long dd), .second, .val (.long qq), .second, .val (.int kk), .val (.long (min64 a b)), .second, .val (.long (max64 a b)), .second, .val (.long (min64 cc dd)), .second, .unset, .unset, .unset, .unset, .unset, .unset, .unset, .unset, .unset, .unset, .unset, .unset, .unset, .unset, .unset, .unset, .unset, .unset, .unset, .unset, .unset] at_21 rfl rfl ?_
  refine WP.lload K 25 at_23 rfl rfl ?_
  refine WP.lload K 27 at_25 rfl rfl ?_
  refine WP.callS K 30 0 0 0 [(.long cc), (.long dd)] [] (hw _ (List.mem_of_getElem? (i := 4) rfl)) (hw _ (List.mem_of_getElem? (i := 5) rfl)) (hw _ (List.mem_of_getElem? (i := 2) rfl)) (hw _ (List.mem_of_getElem? (i := 6) rfl)) (by decide) own_pd_0 rfl rfl rfl (by decide) (by decide) (Nat.le_of_eq rfl) rfl at_27 rfl rfl rfl (by decide) (by decide) (own_max l Z a0 hw n0 h cc dd ) (r1_next fun r12 h10 q11 => ?_)
  obtain ⟨rfl, rfl⟩ := q11
  refine WP.lstore K 32 [.val (.long a), .second, .val (.long b), .second, .val (.long cc), .second, .val (.long dd), .second, .val (.long qq), .second, .val (.int kk), .val (.long (min64 a b)), .second, .val (.long (max64 a b)), .second, .val (.long (min64 cc dd)), .second, .val (.long (max64 cc dd)), .second, .unset, .unset, .unset, .unset, .unset, .unset, .unset, .unset, .unset, .unset, .unset, .unset, .unset, .unset, .unset, .unset, .unset, .unset, .unset] at_30 rfl rfl ?_
  refine WP.lload K 34 at_32 rfl rfl ?_
  refine WP.lload K 36 at_34 rfl rfl ?_
  refine WP.callS K 39 0 0 0 [(.long (min64 a b)), (.long (min64 cc dd))] [] (hw _ (List.mem_of_getElem? (i := 0) rfl)) (hw _ (List.mem_of_getElem? (i := 1) rfl)) (hw _ (List.mem_of_getElem? (i := 2) rfl)) (hw _ (List.mem_of_getElem? (i := 3) rfl)) (by decide) own_pd_0 rfl rfl rfl (by decide) (by decide) (Nat.le_of_eq rfl) rfl at_36 rfl rfl rfl (by decide) (by decide) (own_min l Z a0 hw n0 h (min64 a b) (min64 cc dd) ) (r1_next fun r15 h13 q14 => ?_)
  obtain ⟨rfl, rfl⟩ := q14
  refine WP.lstore K 41 [.val (.long a), .second, .val (.long b), .second, .val (.long cc), .second, .val (.long dd), .second, .val (.long qq), .second, .val (.int kk), .val (.long (min64 a b)), .second, .val (.long (max64 a b)), .second, .val (.long (min64 cc dd)), .second, .val (.long (max64 cc dd)), .second, .val (.long (min64 (min64 a b) (min64 cc dd))), .second, .unset, .unset, .unset, .unset, .unset, .unset, .unset, .unset, .unset, .unset, .unset, .unset, .unset, .unset, .unset, .unset, .unset] at_39 rfl rfl ?_
  refine WP.lload K 43 at_41 rfl rfl ?_
  refine WP.lload K 45 at_43 rfl rfl ?_
  refine WP.callS K 48 0 0 0 [(.long (min64 a b)), (.long (min64 cc dd))] [] (hw _ (List.mem_of_getElem? (i := 4) rfl)) (hw _ (List.mem_of_getElem? (i := 5) rfl)) (hw _ (List.mem_of_getElem? (i := 2) rfl)) (hw _ (List.mem_of_getElem? (i := 6) rfl)) (by decide) own_pd_0 rfl rfl rfl (by decide) (by decide) (Nat.le_of_eq rfl) rfl at_45 rfl rfl rfl (by decide) (by decide) (own_max l Z a0 hw n0 h (min64 a b) (min64 cc dd) ) (r1_next fun r18 h16 q17 => ?_)
  obtain ⟨rfl, rfl⟩ := q17
  refine WP.lstore K 50 [.val (.long a), .second, .val (.long b), .second, .val (.long cc), .second, .val (.long dd), .second, .val (.long qq), .second, .val (.int kk), .val (.long (min64 a b)), .second, .val (.long (max64 a b)), .second, .val (.long (min64 cc dd)), .second, .val (.long (max64 cc dd)), .second, .val (.long (min64 (min64 a b) (min64 cc dd))), .second, .val (.long (max64 (min64 a b) (min64 cc dd))), .second, .unset, .unset, .unset, .unset, .unset, .unset, .unset, .unset, .unset, .unset, .unset, .unset, .unset, .unset, .unset] at_48 rfl rfl ?_
  refine WP.lload K 52 at_50 rfl rfl ?_
  refine WP.lload K 54 at_52 rfl rfl ?_
  refine WP.callS K 57 0 0 0 [(.long (max64 a b)), (.long (max64 cc dd))] [] (hw _ (List.mem_of_getElem? (i := 0) rfl)) (hw _ (List.mem_of_getElem? (i := 1) rfl)) (hw _ (List.mem_of_getElem? (i := 2) rfl)) (hw _ (List.mem_of_getElem? (i := 3) rfl)) (by decide) own_pd_0 rfl rfl rfl (by decide) (by decide) (Nat.le_of_eq rfl) rfl at_54 rfl rfl rfl (by decide) (by decide) (own_min l Z a0 hw n0 h (max64 a b) (max64 cc dd) ) (r1_next fun r21 h19 q20 => ?_)
  obtain ⟨rfl, rfl⟩ := q20
  refine WP.lstore K 59 [.val (.long a), .second, .val (.long b), .second, .val (.long cc), .second, .val (.long dd), .second, .val (.long qq), .second, .val (.int kk), .val (.long (min64 a b)), .second, .val (.long (max64 a b)), .second, .val (.long (min64 cc dd)), .second, .val (.long (max64 cc dd)), .second, .val (.long (min64 (min64 a b) (min64 cc dd))), .second, .val (.long (max64 (min64 a b) (min64 cc dd))), .second, .val (.long (min64 (max64 a b) (max64 cc dd))), .second, .unset, .unset, .unset, .unset, .unset, .unset, .unset, .unset, .unset, .unset, .unset, .unset, .unset] at_57 rfl rfl ?_
  refine WP.lload K 61 at_59 rfl rfl ?_
  refine WP.lload K 63 at_61 rfl rfl ?_
  refine WP.callS K 66 0 0 0 [(.long (max64 a b)), (.long (max64 cc dd))] [] (hw _ (List.mem_of_getElem? (i := 4) rfl)) (hw _ (List.mem_of_getElem? (i := 5) rfl)) (hw _ (List.mem_of_getElem? (i := 2) rfl)) (hw _ (List.mem_of_getElem? (i := 6) rfl)) (by decide) own_pd_0 rfl rfl rfl (by decide) (by decide) (Nat.le_of_eq rfl) rfl at_63 rfl rfl rfl (by decide) (by decide) (own_max l Z a0 hw n0 h (max64 a b) (max64 cc dd) ) (r1_next fun r24 h22 q23 => ?_)
  obtain ⟨rfl, rfl⟩ := q23
  refine WP.lstore K 68 [.val (.long a), .second, .val (.long b), .second, .val (.long cc), .second, .val (.long dd), .second, .val (.long qq), .second, .val (.int kk), .val (.long (min64 a b)), .second, .val (.long (max64 a b)), .second, .val (.long (min64 cc dd)), .second, .val (.long (max64 cc dd)), .second, .val (.long (min64 (min64 a b) (min64 cc dd))), .second, .val (.long (max64 (min64 a b) (min64 cc dd))), .second, .val (.long (min64 (max64 a b) (max64 cc dd))), .second, .val (.long (max64 (max64 a b) (max64 cc dd))), .second, .unset, .unset, .unset, .unset, .unset, .unset, .unset, .unset, .unset, .unset, .unset] at_66 rfl rfl ?_
  refine WP.lload K 70 at_68 rfl rfl ?_
  refine WP.lload K 72 at_70 rfl rfl ?_
  refine WP.callS K 75 0 0 0 [(.long (min64 (max64 a b) (max64 cc dd))), (.long (max64 (min64 a b) (min64 cc dd)))] [] (hw _ (List.mem_of_getElem? (i := 0) rfl)) (hw _ (List.mem_of_getElem? (i := 1) rfl)) (hw _ (List.mem_of_getElem? (i := 2) rfl)) (hw _ (List.mem_of_getElem? (i := 3) rfl)) (by decide) own_pd_0 rfl rfl rfl (by decide) (by decide) (Nat.le_of_eq rfl) rfl at_72 rfl rfl rfl (by decide) (by decide) (own_min l Z a0 hw n0 h (min64 (max64 a b) (max64 cc dd)) (max64 (min64 a b) (min64 cc dd)) ) (r1_next fun r27 h25 q26 => ?_)
  obtain ⟨rfl, rfl⟩ := q26
  refine WP.lstore K 77 [.val (.long a), .second, .val (.long b), .second, .val (.long cc), .second, .val (.long dd), .second, .val (.long qq), .second, .val (.int kk), .val (.long (min64 a b)), .second, .val (.long (max64 a b)), .second, .val (.long (min64 cc dd)), .second, .val (.long (max64 cc dd)), .second, .val (.long (min64 (min64 a b) (min64 cc dd))), .second, .val (.long (max64 (min64 a b) (min64 cc dd))), .second, .val (.long (min64 (max64 a b) (max64 cc dd))), .second, .val (.long (max64 (max64 a b) (max64 cc dd))), .second, .val (.long (min64 (min64 (max64 a b) (max64 cc dd)) (max64 (min64 a b) (min64 cc dd)))), .second, .unset, .unset, .unset, .unset, .unset, .unset, .unset, .unset, .unset] at_75 rfl rfl ?_
  refine WP.lload K 79 at_77 rfl rfl ?_
  refine WP.lload K 81 at_79 rfl rfl ?_
  refine WP.callS K 84 0 0 0 [(.long (min64 (max64 a b) (max64 cc dd))), (.long (max64 (min64 a b) (min64 cc dd)))] [] (hw _ (List.mem_of_getElem? (i := 4) rfl)) (hw _ (List.mem_of_getElem? (i := 5) rfl)) (hw _ (List.mem_of_getElem? (i := 2) rfl)) (hw _ (List.mem_of_getElem? (i := 6) rfl)) (by decide) own_pd_0 rfl rfl rfl (by decide) (by decide) (Nat.le_of_eq rfl) rfl at_81 rfl rfl rfl (by decide) (by decide) (own_max l Z a0 hw n0 h (min64 (max64 a b) (max64 cc dd)) (max64 (min64 a b) (min64 cc dd)) ) (r1_next fun r30 h28 q29 => ?_)
  obtain ⟨rfl, rfl⟩ := q29
  refine WP.lstore K 86 [.val (.long a), .second, .val (.long b), .second, .val (.long cc), .second, .val (.long dd), .second, .val (.long qq), .second, .val (.int kk), .val (.long (min64 a b)), .second, .val (.long (max64 a b)), .second, .val (.long (min64 cc dd)), .second, .val (.long (max64 cc dd)), .second, .val (.long (min64 (min64 a b) (min64 cc dd))), .second, .val (.long (max64 (min64 a b) (min64 cc dd))), .second, .val (.long (min64 (max64 a b) (max64 cc dd))), .second, .val (.long (max64 (max64 a b) (max64 cc dd))), .second, .val (.long (min64 (min64 (max64 a b) (max64 cc dd)) (max64 (min64 a b) (min64 cc dd)))), .second, .val (.long (max64 (min64 (max64 a b) (max64 cc dd)) (max64 (min64 a b) (min64 cc dd)))), .second, .unset, .unset, .unset, .unset, .unset, .unset, .unset] at_84 rfl rfl ?_
  generalize (min64 (min64 a b) (min64 cc dd)) = y0 at so1 so2 so3 ⊢
  generalize (min64 (min64 (max64 a b) (max64 cc dd)) (max64 (min64 a b) (min64 cc dd))) = z1 at so1 so2 so3 ⊢
  generalize (max64 (min64 (max64 a b) (max64 cc dd)) (max64 (min64 a b) (min64 cc dd))) = z2 at so1 so2 so3 ⊢
  generalize (max64 (max64 a b) (max64 cc dd)) = y3 at so1 so2 so3 ⊢
  refine WP.iconst K (4 : Int32) 87 at_86 rfl rfl ?_
  refine WP.newarray K 89 4 4 1 4 (hw _ (List.mem_of_getElem? (i := 7) rfl)) at_87 rfl rfl (Nat.le_refl _) (by decide) rfl rfl (by decide) (by decide) (fun h31 sa z_sa E32 V33 => ?_)
  have n0_sa : n0 ≤ sa := z_sa ▸ Z0
  have Z0 : n0 ≤ (h31).size := Nat.le_trans Z0 E32.1
  have A_sa := ArJ.of_new V33
  have A_sa : ArJ Z h31 sa [(0 : Int64), (0 : Int64), (0 : Int64), (0 : Int64)] := A_sa
  refine WP.astore K 91 [.val (.long a), .second, .val (.long b), .second, .val (.long cc), .second, .val (.long dd), .second, .val (.long qq), .second, .val (.int kk), .val (.long (min64 a b)), .second, .val (.long (max64 a b)), .second, .val (.long (min64 cc dd)), .second, .val (.long (max64 cc dd)), .second, .val (.long y0), .second, .val (.long (max64 (min64 a b) (min64 cc dd))), .second, .val (.long (min64 (max64 a b) (max64 cc dd))), .second, .val (.long y3), .second, .val (.long z1), .second, .val (.long z2), .second, .val (.ref sa), .unset, .unset, .unset, .unset, .unset, .unset] at_89 rfl rfl rfl ?_
  refine WP.aload K 93 at_91 rfl rfl rfl ?_
  refine WP.iconst K (0 : Int32) 94 at_93 rfl rfl ?_
  refine WP.lload K 96 at_94 rfl rfl ?_
  refine WP.lastore K 97 0 A_sa rfl (by simp) at_96 rfl n0_sa (fun h34 K35 A_sa => ?_)
  have Z0 : n0 ≤ (h34).size := Nat.le_trans Z0 K35.1
  have A_sa : ArJ Z h34 sa [y0, (0 : Int64), (0 : Int64), (0 : Int64)] := A_sa
  refine WP.aload K 99 at_97 rfl rfl rfl ?_
  refine WP.iconst K (1 : Int32) 100 at_99 rfl rfl ?_
  refine WP.lload K 102 at_100 rfl rfl ?_
  refine WP.lastore K 103 1 A_sa rfl (by simp) at_102 rfl n0_sa (fun h36 K37 A_sa => ?_)
  have Z0 : n0 ≤ (h36).size := Nat.le_trans Z0 K37.1
  have A_sa : ArJ Z h36 sa [y0, z1, (0 : Int64), (0 : Int64)] := A_sa
  refine WP.aload K 105 at_103 rfl rfl rfl ?_
  refine WP.iconst K (2 : Int32) 106 at_105 rfl rfl ?_
  refine WP.lload K 108 at_106 rfl rfl ?_
  refine WP.lastore K 109 2 A_sa rfl (by simp) at_108 rfl n0_sa (fun h38 K39 A_sa => ?_)
  have Z0 : n0 ≤ (h38).size := Nat.le_trans Z0 K39.1
  have A_sa : ArJ Z h38 sa [y0, z1, z2, (0 : Int64)] := A_sa
  refine WP.aload K 111 at_109 rfl rfl rfl ?_
  refine WP.iconst K (3 : Int32) 112 at_111 rfl rfl ?_
  refine WP.lload K 114 at_112 rfl rfl ?_
  refine WP.lastore K 115 3 A_sa rfl (by simp) at_114 rfl n0_sa (fun h40 K41 A_sa => ?_)
  have Z0 : n0 ≤ (h40).size := Nat.le_trans Z0 K41.1
  have A_sa : ArJ Z h40 sa [y0, z1, z2, y3] := A_sa
  refine WP.iload K 117 at_115 rfl rfl ?_
  refine WP.bipush K (7 : Int32) 119 at_117 rfl rfl ?_
  refine WP.iand K 120 at_119 rfl ?_
  refine WP.iconst K (5 : Int32) 121 at_120 rfl rfl ?_
  refine WP.irem K 122 at_121 rfl (by decide) ?_
  refine WP.istore K 124 [.val (.long a), .second, .val (.long b), .second, .val (.long cc), .second, .val (.long dd), .second, .val (.long qq), .second, .val (.int kk), .val (.long (min64 a b)), .second, .val (.long (max64 a b)), .second, .val (.long (min64 cc dd)), .second, .val (.long (max64 cc dd)), .second, .val (.long y0), .second, .val (.long (max64 (min64 a b) (min64 cc dd))), .second, .val (.long (min64 (max64 a b) (max64 cc dd))), .second, .val (.long y3), .second, .val (.long z1), .second, .val (.long z2), .second, .val (.ref sa), .val (.int ((kk &&& (7 : Int32)) % (5 : Int32))), .unset, .unset, .unset, .unset, .unset] at_122 rfl rfl ?_
  have a1 := c_and kk (7 : Int32) (by decide)
  have a2 := c_iremV (kk &&& (7 : Int32)) (5 : Int32)
  generalize e_nn : ((kk &&& (7 : Int32)) % (5 : Int32)) = nn at a2 ⊢
  have hn5 : 0 ≤ nn.toInt ∧ nn.toInt < 5 := by omega
  refine WP.iload K 126 at_124 rfl rfl ?_
  refine WP.iconst K (3 : Int32) 127 at_126 rfl rfl ?_
  refine WP.iushr K 128 at_127 rfl ?_
  refine WP.bipush K (15 : Int32) 130 at_128 rfl rfl ?_
  refine WP.iand K 131 at_130 rfl ?_
  refine WP.istore K 133 [.val (.long a), .second, .val (.long b), .second, .val (.long cc), .second, .val (.long dd), .second, .val (.long qq), .second, .val (.int kk), .val (.long (min64 a b)), .second, .val (.long (max64 a b)), .second, .val (.long (min64 cc dd)), .second, .val (.long (max64 cc dd)), .second, .val (.long y0), .second, .val (.long (max64 (min64 a b) (min64 cc dd))), .second, .val (.long (min64 (max64 a b) (max64 cc dd))), .second, .val (.long y3), .second, .val (.long z1), .second, .val (.long z2), .second, .val (.ref sa), .val (.int nn), .val (.int ((XT.ushr kk (3 : Int32)) &&& (15 : Int32))), .unset, .unset, .unset, .unset] at_131 rfl rfl ?_
  have a3 := c_and (XT.ushr kk (3 : Int32)) (15 : Int32) (by decide)
  generalize e_md : ((XT.ushr kk (3 : Int32)) &&& (15 : Int32)) = md at a3 ⊢
  have J174 : ∀ qy : Int64, WP k h40 1 4 174 [.val (.long a), .second, .val (.long b), .second, .val (.long cc), .second, .val (.long dd), .second, .val (.long qq), .second, .val (.int kk), .val (.long (min64 a b)), .second, .val (.long (max64 a b)), .second, .val (.long (min64 cc dd)), .second, .val (.long (max64 cc dd)), .second, .val (.long y0), .second, .val (.long (max64 (min64 a b) (min64 cc dd))), .second, .val (.long (min64 (max64 a b) (max64 cc dd))), .second, .val (.long y3), .second, .val (.long z1), .second, .val (.long z2), .second, .val (.ref sa), .val (.int nn), .val (.int md), .val (.long qy), .second, .unset, .unset] [] := by
    intro qy
    refine WP.new K 177 2 6 (hw _ (List.mem_of_getElem? (i := 8) rfl)) (hw _ (List.mem_of_getElem? (i := 9) rfl)) (hw _ (List.mem_of_getElem? (i := 10) rfl)) at_174 rfl rfl rfl (by decide) (by decide) (fun h42 mo z_mo E43 X_mo D44 => ?_)
    have l_sa_mo : sa < mo := z_mo ▸ A_sa.lt
    have n0_mo : n0 ≤ mo := z_mo ▸ Z0
    have Z0 : n0 ≤ (h42).size := Nat.le_trans Z0 E43.1
    have A_sa := A_sa.ext E43
    have F_pairs_mo : Fld Z h42 mo "com/example/vestline/vestline/io/Marks" "pairs" "[J" .null := D44 (Or.inl (hw _ (List.mem_of_getElem? (i := 18) rfl))) (ty := (.array .long)) (by decide)
    have F_count_mo : Fld Z h42 mo "com/example/vestline/vestline/io/Marks" "count" "I" (.int (0 : Int32)) := D44 (Or.inl (hw _ (List.mem_of_getElem? (i := 25) rfl))) (ty := .int) (by decide)
    refine WP.dup K 178 at_177 rfl rfl ?_
    refine WP.callI K (a := mo) 181 3 134 1 [] [(.ref mo)] (hw _ (List.mem_of_getElem? (i := 11) rfl)) (hw _ (List.mem_of_getElem? (i := 12) rfl)) (hw _ (List.mem_of_getElem? (i := 10) rfl)) (hw _ (List.mem_of_getElem? (i := 13) rfl)) rfl (by decide) own_pd_1 rfl rfl rfl (by decide) (by decide) (Nat.le_of_eq rfl) rfl at_178 rfl rfl rfl (by decide) (by decide) (own_init l Z a0 hw n0 h42 mo Z0 X_mo _ F_pairs_mo F_count_mo n0_mo) (r0_next fun h45 q46 => ?_)
    obtain ⟨Kc, p, l_mo_p, n0_p, sz_p, Fp, Fc, A_p⟩ := q46
    have l_sa_p : sa < p := Nat.lt_of_lt_of_le (ArV.lt A_sa) sz_p
    have Z0 : n0 ≤ (h45).size := Nat.le_trans Z0 Kc.1
    have A_sa := A_sa.keep Kc (nm1 (by omega))
    have X_mo := X_mo.keep Kc
    refine WP.astore K 183 [.val (.long a), .second, .val (.long b), .second, .val (.long cc), .second, .val (.long dd), .second, .val (.long qq), .second, .val (.int kk), .val (.long (min64 a b)), .second, .val (.long (max64 a b)), .second, .val (.long (min64 cc dd)), .second, .val (.long (max64 cc dd)), .second, .val (.long y0), .second, .val (.long (max64 (min64 a b) (min64 cc dd))), .second, .val (.long (min64 (max64 a b) (max64 cc dd))), .second, .val (.long y3), .second, .val (.long z1), .second, .val (.long z2), .second, .val (.ref sa), .val (.int nn), .val (.int md), .val (.long qy), .second, .val (.ref mo), .unset] at_181 rfl rfl rfl ?_
    obtain rfl | rfl | rfl | rfl | rfl : nn = 0 ∨ nn = 1 ∨ nn = 2 ∨ nn = 3 ∨ nn = 4 := by
      have q : nn.toInt = 0 ∨ nn.toInt = 1 ∨ nn.toInt = 2 ∨ nn.toInt = 3 ∨ nn.toInt = 4 := by omega
      rcases q with q | q | q | q | q
      · exact Or.inl (i32_eq q)
      · exact Or.inr (Or.inl (i32_eq q))
      · exact Or.inr (Or.inr (Or.inl (i32_eq q)))
      · exact Or.inr (Or.inr (Or.inr (Or.inl (i32_eq q))))
      · exact Or.inr (Or.inr (Or.inr (Or.inr ((i32_eq q)))))
    · skip
      refine WP.iload K 185 at_183 rfl rfl ?_
      refine WP.if_le K 198 188 at_185 (by decide) rfl (fun c185 => ?_) (fun c185 => ?_)
      · skip
        refine WP.iload K 200 at_198 rfl rfl ?_
        refine WP.iconst K (1 : Int32) 201 at_200 rfl rfl ?_
        refine WP.icmp_le K 214 204 at_201 (by decide) rfl (fun c201 => ?_) (fun c201 => ?_)
        · skip
          refine WP.iload K 216 at_214 rfl rfl ?_
          refine WP.iconst K (2 : Int32) 217 at_216 rfl rfl ?_
          refine WP.icmp_le K 232 220 at_217 (by decide) rfl (fun c217 => ?_) (fun c217 => ?_)
          · skip
            refine WP.iload K 234 at_232 rfl rfl ?_
            refine WP.iconst K (3 : Int32) 235 at_234 rfl rfl ?_
            refine WP.icmp_le K 250 238 at_235 (by decide) rfl (fun c235 => ?_) (fun c235 => ?_)
            · skip
              refine WP.iconst K (0 : Int32) 251 at_250 rfl rfl ?_
              refine WP.istore K 253 [.val (.long a), .second, .val (.long b), .second, .val (.long cc), .second, .val (.long dd), .second, .val (.long qq), .second, .val (.int kk), .val (.long (min64 a b)), .second, .val (.long (max64 a b)), .second, .val (.long (min64 cc dd)), .second, .val (.long (max64 cc dd)), .second, .val (.long y0), .second, .val (.long (max64 (min64 a b) (min64 cc dd))), .second, .val (.long (min64 (max64 a b) (max64 cc dd))), .second, .val (.long y3), .second, .val (.long z1), .second, .val (.long z2), .second, .val (.ref sa), .val (.int (0 : Int32)), .val (.int md), .val (.long qy), .second, .val (.ref mo), .val (.int (0 : Int32))] at_251 rfl rfl ?_
              refine WP.iload K 255 at_253 rfl rfl ?_
              refine WP.iconst K (1 : Int32) 256 at_255 rfl rfl ?_
              refine WP.icmp_le K 272 259 at_256 (by decide) rfl (fun c256 => ?_) (fun c256 => ?_)
              · skip
                refine WP.iload K 274 at_272 rfl rfl ?_
                refine WP.iconst K (2 : Int32) 275 at_274 rfl rfl ?_
                refine WP.icmp_le K 291 278 at_275 (by decide) rfl (fun c275 => ?_) (fun c275 => ?_)
                · skip
                  refine WP.iload K 293 at_291 rfl rfl ?_
                  refine WP.iconst K (3 : Int32) 294 at_293 rfl rfl ?_
                  refine WP.icmp_le K 310 297 at_294 (by decide) rfl (fun c294 => ?_) (fun c294 => ?_)
                  · skip
                    refine WP.aload K 312 at_310 rfl rfl rfl ?_
                    refine WP.lload K 314 at_312 rfl rfl ?_
                    refine WP.callV K (a := mo) (C := "com/example/vestline/vestline/io/Marks") 317 3 134 0 [(.long qy)] [] (hw _ (List.mem_of_getElem? (i := 26) rfl)) (hw _ (List.mem_of_getElem? (i := 27) rfl)) rfl (hw _ (List.mem_of_getElem? (i := 29) rfl)) (hw _ (List.mem_of_getElem? (i := 28) rfl)) (hw _ (List.mem_of_getElem? (i := 10) rfl)) (hw _ (List.mem_of_getElem? (i := 30) rfl)) (by decide) own_pd_2 rfl rfl rfl (by decide) (by decide) (Nat.le_of_eq rfl) rfl at_314 rfl rfl rfl (by decide) (by decide) X_mo (own_last l Z a0 hw n0 h45 mo p qy (0 : Int32) 0 (List.replicate 128 0) Fp Fc A_p rfl (by simp)) (r1_next fun r50 h48 q49 => ?_)
                    obtain ⟨⟨zr, m, rfl, hz, hm1, hm2, hm3⟩, rfl⟩ := q49
                    refine WP.iload K 319 at_317 rfl rfl ?_
                    refine WP.icmp_ne K 326 322 at_319 (by decide) rfl (fun c319 => ?_) (fun c319 => ?_)
                    · skip
                      refine WP.iconst K (0 : Int32) 327 at_326 rfl rfl ?_
                      refine WP.iret K rfl (Or.inr (Or.inl rfl)) rfl at_327 ?_ (by decide) (by decide)
                      exfalso
                      have hm : m = 0 := by omega
                      rcases hm with rfl
                      · omega
                    · skip
                      refine WP.iconst K (1 : Int32) 323 at_322 rfl rfl ?_
                      refine WP.goto K 327 at_323 (by decide) ?_
                      refine WP.iret K rfl (Or.inr (Or.inl rfl)) rfl at_327 ?_ (by decide) (by decide)
                      exact ⟨_, rfl, rfl⟩
                  · skip
                    exact absurd c294 (by decide)
                · skip
                  exact absurd c275 (by decide)
              · skip
                exact absurd c256 (by decide)
            · skip
              exact absurd c235 (by decide)
          · skip
            exact absurd c217 (by decide)
        · skip
          exact absurd c201 (by decide)
      · skip
        exact absurd c185 (by decide)
    · skip
      refine WP.iload K 185 at_183 rfl rfl ?_
      refine WP.if_le K 198 188 at_185 (by decide) rfl (fun c185 => ?_) (fun c185 => ?_)
      · skip
        exact absurd c185 (by decide)
      · skip
        refine WP.aload K 190 at_188 rfl rfl rfl ?_
        refine WP.aload K 192 at_190 rfl rfl rfl ?_
        refine WP.iconst K (0 : Int32) 193 at_192 rfl rfl ?_
        refine WP.laload K 194 0 A_sa rfl rfl at_193 rfl ?_
        refine WP.lconst K (0 : Int64) 195 at_194 rfl rfl ?_
        refine WP.callV K (a := mo) (C := "com/example/vestline/vestline/io/Marks") 198 3 134 0 [(.long y0), (.long (0 : Int64))] [] (hw _ (List.mem_of_getElem? (i := 19) rfl)) (hw _ (List.mem_of_getElem? (i := 20) rfl)) rfl (hw _ (List.mem_of_getElem? (i := 22) rfl)) (hw _ (List.mem_of_getElem? (i := 21) rfl)) (hw _ (List.mem_of_getElem? (i := 10) rfl)) (hw _ (List.mem_of_getElem? (i := 23) rfl)) (by decide) own_pd_3 rfl rfl rfl (by decide) (by decide) (Nat.le_of_eq rfl) rfl at_195 rfl rfl rfl (by decide) (by decide) X_mo (own_note l Z a0 hw n0 h45 mo p y0 (0 : Int64) (0 : Int32) 0 (List.replicate 128 0) X_mo Fp Fc A_p rfl (by simp) n0_mo n0_p (by omega)) (r0_next fun h51 q52 => ?_)
        obtain ⟨Kn, Fp, Fc, A_p⟩ := q52
        have Z0 : n0 ≤ (h51).size := Nat.le_trans Z0 Kn.1
        have A_sa := A_sa.keep Kn (nm2 (by omega))
        have X_mo := X_mo.keep Kn
        refine WP.iload K 200 at_198 rfl rfl ?_
        refine WP.iconst K (1 : Int32) 201 at_200 rfl rfl ?_
        refine WP.icmp_le K 214 204 at_201 (by decide) rfl (fun c201 => ?_) (fun c201 => ?_)
        · skip
          refine WP.iload K 216 at_214 rfl rfl ?_
          refine WP.iconst K (2 : Int32) 217 at_216 rfl rfl ?_
          refine WP.icmp_le K 232 220 at_217 (by decide) rfl (fun c217 => ?_) (fun c217 => ?_)
          · skip
            refine WP.iload K 234 at_232 rfl rfl ?_
            refine WP.iconst K (3 : Int32) 235 at_234 rfl rfl ?_
            refine WP.icmp_le K 250 238 at_235 (by decide) rfl (fun c235 => ?_) (fun c235 => ?_)
            · skip
              refine WP.iconst K (0 : Int32) 251 at_250 rfl rfl ?_
              refine WP.istore K 253 [.val (.long a), .second, .val (.long b), .second, .val (.long cc), .second, .val (.long dd), .second, .val (.long qq), .second, .val (.int kk), .val (.long (min64 a b)), .second, .val (.long (max64 a b)), .second, .val (.long (min64 cc dd)), .second, .val (.long (max64 cc dd)), .second, .val (.long y0), .second, .val (.long (max64 (min64 a b) (min64 cc dd))), .second, .val (.long (min64 (max64 a b) (max64 cc dd))), .second, .val (.long y3), .second, .val (.long z1), .second, .val (.long z2), .second, .val (.ref sa), .val (.int (1 : Int32)), .val (.int md), .val (.long qy), .second, .val (.ref mo), .val (.int (0 : Int32))] at_251 rfl rfl ?_
              refine WP.iload K 255 at_253 rfl rfl ?_
              refine WP.iconst K (1 : Int32) 256 at_255 rfl rfl ?_
              refine WP.icmp_le K 272 259 at_256 (by decide) rfl (fun c256 => ?_) (fun c256 => ?_)
              · skip
                refine WP.iload K 274 at_272 rfl rfl ?_
                refine WP.iconst K (2 : Int32) 275 at_274 rfl rfl ?_
                refine WP.icmp_le K 291 278 at_275 (by decide) rfl (fun c275 => ?_) (fun c275 => ?_)
                · skip
                  refine WP.iload K 293 at_291 rfl rfl ?_
                  refine WP.iconst K (3 : Int32) 294 at_293 rfl rfl ?_
                  refine WP.icmp_le K 310 297 at_294 (by decide) rfl (fun c294 => ?_) (fun c294 => ?_)
                  · skip
                    refine WP.aload K 312 at_310 rfl rfl rfl ?_
                    refine WP.lload K 314 at_312 rfl rfl ?_
                    refine WP.callV K (a := mo) (C := "com/example/vestline/vestline/io/Marks") 317 3 134 0 [(.long qy)] [] (hw _ (List.mem_of_getElem? (i := 26) rfl)) (hw _ (List.mem_of_getElem? (i := 27) rfl)) rfl (hw _ (List.mem_of_getElem? (i := 29) rfl)) (hw _ (List.mem_of_getElem? (i := 28) rfl)) (hw _ (List.mem_of_getElem? (i := 10) rfl)) (hw _ (List.mem_of_getElem? (i := 30) rfl)) (by decide) own_pd_2 rfl rfl rfl (by decide) (by decide) (Nat.le_of_eq rfl) rfl at_314 rfl rfl rfl (by decide) (by decide) X_mo (own_last l Z a0 hw n0 h51 mo p qy ((0 : Int32) + 1) 1 (((List.replicate 128 0).set (2 * 0) y0).set (2 * 0 + 1) (0 : Int64)) Fp Fc A_p rfl (by simp)) (r1_next fun r56 h54 q55 => ?_)
                    obtain ⟨⟨zr, m, rfl, hz, hm1, hm2, hm3⟩, rfl⟩ := q55
                    refine WP.iload K 319 at_317 rfl rfl ?_
                    refine WP.icmp_ne K 326 322 at_319 (by decide) rfl (fun c319 => ?_) (fun c319 => ?_)
                    · skip
                      refine WP.iconst K (0 : Int32) 327 at_326 rfl rfl ?_
                      refine WP.iret K rfl (Or.inr (Or.inl rfl)) rfl at_327 ?_ (by decide) (by decide)
                      exfalso
                      have hm : m = 0 := by omega
                      rcases hm with rfl
                      · omega
                    · skip
                      refine WP.iconst K (1 : Int32) 323 at_322 rfl rfl ?_
                      refine WP.goto K 327 at_323 (by decide) ?_
                      refine WP.iret K rfl (Or.inr (Or.inl rfl)) rfl at_327 ?_ (by decide) (by decide)
                      exact ⟨_, rfl, rfl⟩
                  · skip
                    exact absurd c294 (by decide)
                · skip
                  exact absurd c275 (by decide)
              · skip
                exact absurd c256 (by decide)
            · skip
              exact absurd c235 (by decide)
          · skip
            exact absurd c217 (by decide)
        · skip
          exact absurd c201 (by decide)
    · skip
      refine WP.iload K 185 at_183 rfl rfl ?_
      refine WP.if_le K 198 188 at_185 (by decide) rfl (fun c185 => ?_) (fun c185 => ?_)
      · skip
        exact absurd c185 (by decide)
      · skip
        refine WP.aload K 190 at_188 rfl rfl rfl ?_
        refine WP.aload K 192 at_190 rfl rfl rfl ?_
        refine WP.iconst K (0 : Int32) 193 at_192 rfl rfl ?_
        refine WP.laload K 194 0 A_sa rfl rfl at_193 rfl ?_
        refine WP.lconst K (0 : Int64) 195 at_194 rfl rfl ?_
        refine WP.callV K (a := mo) (C := "com/example/vestline/vestline/io/Marks") 198 3 134 0 [(.long y0), (.long (0 : Int64))] [] (hw _ (List.mem_of_getElem? (i := 19) rfl)) (hw _ (List.mem_of_getElem? (i := 20) rfl)) rfl (hw _ (List.mem_of_getElem? (i := 22) rfl)) (hw _ (List.mem_of_getElem? (i := 21) rfl)) (hw _ (List.mem_of_getElem? (i := 10) rfl)) (hw _ (List.mem_of_getElem? (i := 23) rfl)) (by decide) own_pd_3 rfl rfl rfl (by decide) (by decide) (Nat.le_of_eq rfl) rfl at_195 rfl rfl rfl (by decide) (by decide) X_mo (own_note l Z a0 hw n0 h45 mo p y0 (0 : Int64) (0 : Int32) 0 (List.replicate 128 0) X_mo Fp Fc A_p rfl (by simp) n0_mo n0_p (by omega)) (r0_next fun h57 q58 => ?_)
        obtain ⟨Kn, Fp, Fc, A_p⟩ := q58
        have Z0 : n0 ≤ (h57).size := Nat.le_trans Z0 Kn.1
        have A_sa := A_sa.keep Kn (nm2 (by omega))
        have X_mo := X_mo.keep Kn
        refine WP.iload K 200 at_198 rfl rfl ?_
        refine WP.iconst K (1 : Int32) 201 at_200 rfl rfl ?_
        refine WP.icmp_le K 214 204 at_201 (by decide) rfl (fun c201 => ?_) (fun c201 => ?_)
        · skip
          exact absurd c201 (by decide)
        · skip
          refine WP.aload K 206 at_204 rfl rfl rfl ?_
          refine WP.aload K 208 at_206 rfl rfl rfl ?_
          refine WP.iconst K (1 : Int32) 209 at_208 rfl rfl ?_
          refine WP.laload K 210 1 A_sa rfl rfl at_209 rfl ?_
          refine WP.lconst K (1 : Int64) 211 at_210 rfl rfl ?_
          refine WP.callV K (a := mo) (C := "com/example/vestline/vestline/io/Marks") 214 3 134 0 [(.long z1), (.long (1 : Int64))] [] (hw _ (List.mem_of_getElem? (i := 19) rfl)) (hw _ (List.mem_of_getElem? (i := 20) rfl)) rfl (hw _ (List.mem_of_getElem? (i := 22) rfl)) (hw _ (List.mem_of_getElem? (i := 21) rfl)) (hw _ (List.mem_of_getElem? (i := 10) rfl)) (hw _ (List.mem_of_getElem? (i := 23) rfl)) (by decide) own_pd_3 rfl rfl rfl (by decide) (by decide) (Nat.le_of_eq rfl) rfl at_211 rfl rfl rfl (by decide) (by decide) X_mo (own_note l Z a0 hw n0 h57 mo p z1 (1 : Int64) ((0 : Int32) + 1) 1 (((List.replicate 128 0).set (2 * 0) y0).set (2 * 0 + 1) (0 : Int64)) X_mo Fp Fc A_p rfl (by simp) n0_mo n0_p (by omega)) (r0_next fun h60 q61 => ?_)
          obtain ⟨Kn, Fp, Fc, A_p⟩ := q61
          have Z0 : n0 ≤ (h60).size := Nat.le_trans Z0 Kn.1
          have A_sa := A_sa.keep Kn (nm2 (by omega))
          have X_mo := X_mo.keep Kn
          refine WP.iload K 216 at_214 rfl rfl ?_
          refine WP.iconst K (2 : Int32) 217 at_216 rfl rfl ?_
          refine WP.icmp_le K 232 220 at_217 (by decide) rfl (fun c217 => ?_) (fun c217 => ?_)
          · skip
            refine WP.iload K 234 at_232 rfl rfl ?_
            refine WP.iconst K (3 : Int32) 235 at_234 rfl rfl ?_
            refine WP.icmp_le K 250 238 at_235 (by decide) rfl (fun c235 => ?_) (fun c235 => ?_)
            · skip
              refine WP.iconst K (0 : Int32) 251 at_250 rfl rfl ?_
              refine WP.istore K 253 [.val (.long a), .second, .val (.long b), .second, .val (.long cc), .second, .val (.long dd), .second, .val (.long qq), .second, .val (.int kk), .val (.long (min64 a b)), .second, .val (.long (max64 a b)), .second, .val (.long (min64 cc dd)), .second, .val (.long (max64 cc dd)), .second, .val (.long y0), .second, .val (.long (max64 (min64 a b) (min64 cc dd))), .second, .val (.long (min64 (max64 a b) (max64 cc dd))), .second, .val (.long y3), .second, .val (.long z1), .second, .val (.long z2), .second, .val (.ref sa), .val (.int (2 : Int32)), .val (.int md), .val (.long qy), .second, .val (.ref mo), .val (.int (0 : Int32))] at_251 rfl rfl ?_
              refine WP.iload K 255 at_253 rfl rfl ?_
              refine WP.iconst K (1 : Int32) 256 at_255 rfl rfl ?_
              refine WP.icmp_le K 272 259 at_256 (by decide) rfl (fun c256 => ?_) (fun c256 => ?_)
              · skip
                exact absurd c256 (by decide)
              · skip
                refine WP.aload K 261 at_259 rfl rfl rfl ?_
                refine WP.iconst K (1 : Int32) 262 at_261 rfl rfl ?_
                refine WP.laload K 263 1 A_sa rfl rfl at_262 rfl ?_
                refine WP.lload K 265 at_263 rfl rfl ?_
                refine WP.lcmp K 266 at_265 rfl ?_
                refine WP.ifl_gt K 272 269 at_266 (by decide) rfl (fun c266 => ?_) (fun c266 => ?_)
                · skip
                  refine WP.iload K 274 at_272 rfl rfl ?_
                  refine WP.iconst K (2 : Int32) 275 at_274 rfl rfl ?_
                  refine WP.icmp_le K 291 278 at_275 (by decide) rfl (fun c275 => ?_) (fun c275 => ?_)
                  · skip
                    refine WP.iload K 293 at_291 rfl rfl ?_
                    refine WP.iconst K (3 : Int32) 294 at_293 rfl rfl ?_
                    refine WP.icmp_le K 310 297 at_294 (by decide) rfl (fun c294 => ?_) (fun c294 => ?_)
                    · skip
                      refine WP.aload K 312 at_310 rfl rfl rfl ?_
                      refine WP.lload K 314 at_312 rfl rfl ?_
                      refine WP.callV K (a := mo) (C := "com/example/vestline/vestline/io/Marks") 317 3 134 0 [(.long qy)] [] (hw _ (List.mem_of_getElem? (i := 26) rfl)) (hw _ (List.mem_of_getElem? (i := 27) rfl)) rfl (hw _ (List.mem_of_getElem? (i := 29) rfl)) (hw _ (List.mem_of_getElem? (i := 28) rfl)) (hw _ (List.mem_of_getElem? (i := 10) rfl)) (hw _ (List.mem_of_getElem? (i := 30) rfl)) (by decide) own_pd_2 rfl rfl rfl (by decide) (by decide) (Nat.le_of_eq rfl) rfl at_314 rfl rfl rfl (by decide) (by decide) X_mo (own_last l Z a0 hw n0 h60 mo p qy (((0 : Int32) + 1) + 1) 2 (((((List.replicate 128 0).set (2 * 0) y0).set (2 * 0 + 1) (0 : Int64)).set (2 * 1) z1).set (2 * 1 + 1) (1 : Int64)) Fp Fc A_p rfl (by simp)) (r1_next fun r65 h63 q64 => ?_)
                      obtain ⟨⟨zr, m, rfl, hz, hm1, hm2, hm3⟩, rfl⟩ := q64
                      refine WP.iload K 319 at_317 rfl rfl ?_
                      refine WP.icmp_ne K 326 322 at_319 (by decide) rfl (fun c319 => ?_) (fun c319 => ?_)
                      · skip
                        refine WP.iconst K (0 : Int32) 327 at_326 rfl rfl ?_
                        refine WP.iret K rfl (Or.inr (Or.inl rfl)) rfl at_327 ?_ (by decide) (by decide)
                        exfalso
                        have w1 : own_at (((((List.replicate 128 0).set (2 * 0) y0).set (2 * 0 + 1) (0 : Int64)).set (2 * 1) z1).set (2 * 1 + 1) (1 : Int64)) 1 = z1 := rfl
                        have hm : m = 0 ∨ m = 1 := by omega
                        rcases hm with rfl | rfl
                        · rw [show 0 + 1 = 1 from rfl, w1] at hm3; omega
                        · rw [w1] at hm2; omega
                      · skip
                        refine WP.iconst K (1 : Int32) 323 at_322 rfl rfl ?_
                        refine WP.goto K 327 at_323 (by decide) ?_
                        refine WP.iret K rfl (Or.inr (Or.inl rfl)) rfl at_327 ?_ (by decide) (by decide)
                        exact ⟨_, rfl, rfl⟩
                    · skip
                      exact absurd c294 (by decide)
                  · skip
                    exact absurd c275 (by decide)
                · skip
                  refine WP.iconst K (1 : Int32) 270 at_269 rfl rfl ?_
                  refine WP.istore K 272 [.val (.long a), .second, .val (.long b), .second, .val (.long cc), .second, .val (.long dd), .second, .val (.long qq), .second, .val (.int kk), .val (.long (min64 a b)), .second, .val (.long (max64 a b)), .second, .val (.long (min64 cc dd)), .second, .val (.long (max64 cc dd)), .second, .val (.long y0), .second, .val (.long (max64 (min64 a b) (min64 cc dd))), .second, .val (.long (min64 (max64 a b) (max64 cc dd))), .second, .val (.long y3), .second, .val (.long z1), .second, .val (.long z2), .second, .val (.ref sa), .val (.int (2 : Int32)), .val (.int md), .val (.long qy), .second, .val (.ref mo), .val (.int (1 : Int32))] at_270 rfl rfl ?_
                  refine WP.iload K 274 at_272 rfl rfl ?_
                  refine WP.iconst K (2 : Int32) 275 at_274 rfl rfl ?_
                  refine WP.icmp_le K 291 278 at_275 (by decide) rfl (fun c275 => ?_) (fun c275 => ?_)
                  · skip
                    refine WP.iload K 293 at_291 rfl rfl ?_
                    refine WP.iconst K (3 : Int32) 294 at_293 rfl rfl ?_
                    refine WP.icmp_le K 310 297 at_294 (by decide) rfl (fun c294 => ?_) (fun c294 => ?_)
                    · skip
                      refine WP.aload K 312 at_310 rfl rfl rfl ?_
                      refine WP.lload K 314 at_312 rfl rfl ?_
                      refine WP.callV K (a := mo) (C := "com/example/vestline/vestline/io/Marks") 317 3 134 0 [(.long qy)] [] (hw _ (List.mem_of_getElem? (i := 26) rfl)) (hw _ (List.mem_of_getElem? (i := 27) rfl)) rfl (hw _ (List.mem_of_getElem? (i := 29) rfl)) (hw _ (List.mem_of_getElem? (i := 28) rfl)) (hw _ (List.mem_of_getElem? (i := 10) rfl)) (hw _ (List.mem_of_getElem? (i := 30) rfl)) (by decide) own_pd_2 rfl rfl rfl (by decide) (by decide) (Nat.le_of_eq rfl) rfl at_314 rfl rfl rfl (by decide) (by decide) X_mo (own_last l Z a0 hw n0 h60 mo p qy (((0 : Int32) + 1) + 1) 2 (((((List.replicate 128 0).set (2 * 0) y0).set (2 * 0 + 1) (0 : Int64)).set (2 * 1) z1).set (2 * 1 + 1) (1 : Int64)) Fp Fc A_p rfl (by simp)) (r1_next fun r68 h66 q67 => ?_)
                      obtain ⟨⟨zr, m, rfl, hz, hm1, hm2, hm3⟩, rfl⟩ := q67
                      refine WP.iload K 319 at_317 rfl rfl ?_
                      refine WP.icmp_ne K 326 322 at_319 (by decide) rfl (fun c319 => ?_) (fun c319 => ?_)
                      · skip
                        refine WP.iconst K (0 : Int32) 327 at_326 rfl rfl ?_
                        refine WP.iret K rfl (Or.inr (Or.inl rfl)) rfl at_327 ?_ (by decide) (by decide)
                        exfalso
                        have w1 : own_at (((((List.replicate 128 0).set (2 * 0) y0).set (2 * 0 + 1) (0 : Int64)).set (2 * 1) z1).set (2 * 1 + 1) (1 : Int64)) 1 = z1 := rfl
                        have hm : m = 0 ∨ m = 1 := by omega
                        rcases hm with rfl | rfl
                        · rw [show 0 + 1 = 1 from rfl, w1] at hm3; omega
                        · rw [w1] at hm2; omega
                      · skip
                        refine WP.iconst K (1 : Int32) 323 at_322 rfl rfl ?_
                        refine WP.goto K 327 at_323 (by decide) ?_
                        refine WP.iret K rfl (Or.inr (Or.inl rfl)) rfl at_327 ?_ (by decide) (by decide)
                        exact ⟨_, rfl, rfl⟩
                    · skip
                      exact absurd c294 (by decide)
                  · skip
                    exact absurd c275 (by decide)
            · skip
              exact absurd c235 (by decide)
          · skip
            exact absurd c217 (by decide)
    · skip
      refine WP.iload K 185 at_183 rfl rfl ?_
      refine WP.if_le K 198 188 at_185 (by decide) rfl (fun c185 => ?_) (fun c185 => ?_)
      · skip
        exact absurd c185 (by decide)
      · skip
        refine WP.aload K 190 at_188 rfl rfl rfl ?_
        refine WP.aload K 192 at_190 rfl rfl rfl ?_
        refine WP.iconst K (0 : Int32) 193 at_192 rfl rfl ?_
        refine WP.laload K 194 0 A_sa rfl rfl at_193 rfl ?_
        refine WP.lconst K (0 : Int64) 195 at_194 rfl rfl ?_
        refine WP.callV K (a := mo) (C := "com/example/vestline/vestline/io/Marks") 198 3 134 0 [(.long y0), (.long (0 : Int64))] [] (hw _ (List.mem_of_getElem? (i := 19) rfl)) (hw _ (List.mem_of_getElem? (i := 20) rfl)) rfl (hw _ (List.mem_of_getElem? (i := 22) rfl)) (hw _ (List.mem_of_getElem? (i := 21) rfl)) (hw _ (List.mem_of_getElem? (i := 10) rfl)) (hw _ (List.mem_of_getElem? (i := 23) rfl)) (by decide) own_pd_3 rfl rfl rfl (by decide) (by decide) (Nat.le_of_eq rfl) rfl at_195 rfl rfl rfl (by decide) (by decide) X_mo (own_note l Z a0 hw n0 h45 mo p y0 (0 : Int64) (0 : Int32) 0 (List.replicate 128 0) X_mo Fp Fc A_p rfl (by simp) n0_mo n0_p (by omega)) (r0_next fun h69 q70 => ?_)
        obtain ⟨Kn, Fp, Fc, A_p⟩ := q70
        have Z0 : n0 ≤ (h69).size := Nat.le_trans Z0 Kn.1
        have A_sa := A_sa.keep Kn (nm2 (by omega))
        have X_mo := X_mo.keep Kn
        refine WP.iload K 200 at_198 rfl rfl ?_
        refine WP.iconst K (1 : Int32) 201 at_200 rfl rfl ?_
        refine WP.icmp_le K 214 204 at_201 (by decide) rfl (fun c201 => ?_) (fun c201 => ?_)
        · skip
          exact absurd c201 (by decide)
        · skip
          refine WP.aload K 206 at_204 rfl rfl rfl ?_
          refine WP.aload K 208 at_206 rfl rfl rfl ?_
          refine WP.iconst K (1 : Int32) 209 at_208 rfl rfl ?_
          refine WP.laload K 210 1 A_sa rfl rfl at_209 rfl ?_
          refine WP.lconst K (1 : Int64) 211 at_210 rfl rfl ?_
          refine WP.callV K (a := mo) (C := "com/example/vestline/vestline/io/Marks") 214 3 134 0 [(.long z1), (.long (1 : Int64))] [] (hw _ (List.mem_of_getElem? (i := 19) rfl)) (hw _ (List.mem_of_getElem? (i := 20) rfl)) rfl (hw _ (List.mem_of_getElem? (i := 22) rfl)) (hw _ (List.mem_of_getElem? (i := 21) rfl)) (hw _ (List.mem_of_getElem? (i := 10) rfl)) (hw _ (List.mem_of_getElem? (i := 23) rfl)) (by decide) own_pd_3 rfl rfl rfl (by decide) (by decide) (Nat.le_of_eq rfl) rfl at_211 rfl rfl rfl (by decide) (by decide) X_mo (own_note l Z a0 hw n0 h69 mo p z1 (1 : Int64) ((0 : Int32) + 1) 1 (((List.replicate 128 0).set (2 * 0) y0).set (2 * 0 + 1) (0 : Int64)) X_mo Fp Fc A_p rfl (by simp) n0_mo n0_p (by omega)) (r0_next fun h72 q73 => ?_)
          obtain ⟨Kn, Fp, Fc, A_p⟩ := q73
          have Z0 : n0 ≤ (h72).size := Nat.le_trans Z0 Kn.1
          have A_sa := A_sa.keep Kn (nm2 (by omega))
          have X_mo := X_mo.keep Kn
          refine WP.iload K 216 at_214 rfl rfl ?_
          refine WP.iconst K (2 : Int32) 217 at_216 rfl rfl ?_
          refine WP.icmp_le K 232 220 at_217 (by decide) rfl (fun c217 => ?_) (fun c217 => ?_)
          · skip
            exact absurd c217 (by decide)
          · skip
            refine WP.aload K 222 at_220 rfl rfl rfl ?_
            refine WP.aload K 224 at_222 rfl rfl rfl ?_
            refine WP.iconst K (2 : Int32) 225 at_224 rfl rfl ?_
            refine WP.laload K 226 2 A_sa rfl rfl at_225 rfl ?_
            refine WP.ldc2J K (v := (2 : Int64)) 229 (hw _ (List.mem_of_getElem? (i := 31) rfl)) at_226 rfl ?_
            refine WP.callV K (a := mo) (C := "com/example/vestline/vestline/io/Marks") 232 3 134 0 [(.long z2), (.long (2 : Int64))] [] (hw _ (List.mem_of_getElem? (i := 19) rfl)) (hw _ (List.mem_of_getElem? (i := 20) rfl)) rfl (hw _ (List.mem_of_getElem? (i := 22) rfl)) (hw _ (List.mem_of_getElem? (i := 21) rfl)) (hw _ (List.mem_of_getElem? (i := 10) rfl)) (hw _ (List.mem_of_getElem? (i := 23) rfl)) (by decide) own_pd_3 rfl rfl rfl (by decide) (by decide) (Nat.le_of_eq rfl) rfl at_229 rfl rfl rfl (by decide) (by decide) X_mo (own_note l Z a0 hw n0 h72 mo p z2 (2 : Int64) (((0 : Int32) + 1) + 1) 2 (((((List.replicate 128 0).set (2 * 0) y0).set (2 * 0 + 1) (0 : Int64)).set (2 * 1) z1).set (2 * 1 + 1) (1 : Int64)) X_mo Fp Fc A_p rfl (by simp) n0_mo n0_p (by omega)) (r0_next fun h75 q76 => ?_)
            obtain ⟨Kn, Fp, Fc, A_p⟩ := q76
            have Z0 : n0 ≤ (h75).size := Nat.le_trans Z0 Kn.1
            have A_sa := A_sa.keep Kn (nm2 (by omega))
            have X_mo := X_mo.keep Kn
            refine WP.iload K 234 at_232 rfl rfl ?_
            refine WP.iconst K (3 : Int32) 235 at_234 rfl rfl ?_
            refine WP.icmp_le K 250 238 at_235 (by decide) rfl (fun c235 => ?_) (fun c235 => ?_)
            · skip
              refine WP.iconst K (0 : Int32) 251 at_250 rfl rfl ?_
              refine WP.istore K 253 [.val (.long a), .second, .val (.long b), .second, .val (.long cc), .second, .val (.long dd), .second, .val (.long qq), .second, .val (.int kk), .val (.long (min64 a b)), .second, .val (.long (max64 a b)), .second, .val (.long (min64 cc dd)), .second, .val (.long (max64 cc dd)), .second, .val (.long y0), .second, .val (.long (max64 (min64 a b) (min64 cc dd))), .second, .val (.long (min64 (max64 a b) (max64 cc dd))), .second, .val (.long y3), .second, .val (.long z1), .second, .val (.long z2), .second, .val (.ref sa), .val (.int (3 : Int32)), .val (.int md), .val (.long qy), .second, .val (.ref mo), .val (.int (0 : Int32))] at_251 rfl rfl ?_
              refine WP.iload K 255 at_253 rfl rfl ?_
              refine WP.iconst K (1 : Int32) 256 at_255 rfl rfl ?_
              refine WP.icmp_le K 272 259 at_256 (by decide) rfl (fun c256 => ?_) (fun c256 => ?_)
              · skip
                exact absurd c256 (by decide)
              · skip
                refine WP.aload K 261 at_259 rfl rfl rfl ?_
                refine WP.iconst K (1 : Int32) 262 at_261 rfl rfl ?_
                refine WP.laload K 263 1 A_sa rfl rfl at_262 rfl ?_
                refine WP.lload K 265 at_263 rfl rfl ?_
                refine WP.lcmp K 266 at_265 rfl ?_
                refine WP.ifl_gt K 272 269 at_266 (by decide) rfl (fun c266 => ?_) (fun c266 => ?_)
                · skip
                  refine WP.iload K 274 at_272 rfl rfl ?_
                  refine WP.iconst K (2 : Int32) 275 at_274 rfl rfl ?_
                  refine WP.icmp_le K 291 278 at_275 (by decide) rfl (fun c275 => ?_) (fun c275 => ?_)
                  · skip
                    exact absurd c275 (by decide)
                  · skip
                    refine WP.aload K 280 at_278 rfl rfl rfl ?_
                    refine WP.iconst K (2 : Int32) 281 at_280 rfl rfl ?_
                    refine WP.laload K 282 2 A_sa rfl rfl at_281 rfl ?_
                    refine WP.lload K 284 at_282 rfl rfl ?_
                    refine WP.lcmp K 285 at_284 rfl ?_
                    refine WP.ifl_gt K 291 288 at_285 (by decide) rfl (fun c285 => ?_) (fun c285 => ?_)
                    · skip
                      refine WP.iload K 293 at_291 rfl rfl ?_
                      refine WP.iconst K (3 : Int32) 294 at_293 rfl rfl ?_
                      refine WP.icmp_le K 310 297 at_294 (by decide) rfl (fun c294 => ?_) (fun c294 => ?_)
                      · skip
                        refine WP.aload K 312 at_310 rfl rfl rfl ?_
                        refine WP.lload K 314 at_312 rfl rfl ?_
                        refine WP.callV K (a := mo) (C := "com/example/vestline/vestline/io/Marks") 317 3 134 0 [(.long qy)] [] (hw _ (List.mem_of_getElem? (i := 26) rfl)) (hw _ (List.mem_of_getElem? (i := 27) rfl)) rfl (hw _ (List.mem_of_getElem? (i := 29) rfl)) (hw _ (List.mem_of_getElem? (i := 28) rfl)) (hw _ (List.mem_of_getElem? (i := 10) rfl)) (hw _ (List.mem_of_getElem? (i := 30) rfl)) (by decide) own_pd_2 rfl rfl rfl (by decide) (by decide) (Nat.le_of_eq rfl) rfl at_314 rfl rfl rfl (by decide) (by decide) X_mo (own_last l Z a0 hw n0 h75 mo p qy ((((0 : Int32) + 1) + 1) + 1) 3 (((((((List.replicate 128 0).set (2 * 0) y0).set (2 * 0 + 1) (0 : Int64)).set (2 * 1) z1).set (2 * 1 + 1) (1 : Int64)).set (2 * 2) z2).set (2 * 2 + 1) (2 : Int64)) Fp Fc A_p rfl (by simp)) (r1_next fun r80 h78 q79 => ?_)
                        obtain ⟨⟨zr, m, rfl, hz, hm1, hm2, hm3⟩, rfl⟩ := q79
                        refine WP.iload K 319 at_317 rfl rfl ?_
                        refine WP.icmp_ne K 326 322 at_319 (by decide) rfl (fun c319 => ?_) (fun c319 => ?_)
                        · skip
                          refine WP.iconst K (0 : Int32) 327 at_326 rfl rfl ?_
                          refine WP.iret K rfl (Or.inr (Or.inl rfl)) rfl at_327 ?_ (by decide) (by decide)
                          exfalso
                          have w1 : own_at (((((((List.replicate 128 0).set (2 * 0) y0).set (2 * 0 + 1) (0 : Int64)).set (2 * 1) z1).set (2 * 1 + 1) (1 : Int64)).set (2 * 2) z2).set (2 * 2 + 1) (2 : Int64)) 1 = z1 := rfl
                          have w2 : own_at (((((((List.replicate 128 0).set (2 * 0) y0).set (2 * 0 + 1) (0 : Int64)).set (2 * 1) z1).set (2 * 1 + 1) (1 : Int64)).set (2 * 2) z2).set (2 * 2 + 1) (2 : Int64)) 2 = z2 := rfl
                          have hm : m = 0 ∨ m = 1 ∨ m = 2 := by omega
                          rcases hm with rfl | rfl | rfl
                          · rw [show 0 + 1 = 1 from rfl, w1] at hm3; omega
                          · rw [w1] at hm2; rw [show 1 + 1 = 2 from rfl, w2] at hm3; omega
                          · rw [w2] at hm2; omega
                        · skip
                          refine WP.iconst K (1 : Int32) 323 at_322 rfl rfl ?_
                          refine WP.goto K 327 at_323 (by decide) ?_
                          refine WP.iret K rfl (Or.inr (Or.inl rfl)) rfl at_327 ?_ (by decide) (by decide)
                          exact ⟨_, rfl, rfl⟩
                      · skip
                        exact absurd c294 (by decide)
                    · skip
                      refine WP.iconst K (2 : Int32) 289 at_288 rfl rfl ?_
                      refine WP.istore K 291 [.val (.long a), .second, .val (.long b), .second, .val (.long cc), .second, .val (.long dd), .second, .val (.long qq), .second, .val (.int kk), .val (.long (min64 a b)), .second, .val (.long (max64 a b)), .second, .val (.long (min64 cc dd)), .second, .val (.long (max64 cc dd)), .second, .val (.long y0), .second, .val (.long (max64 (min64 a b) (min64 cc dd))), .second, .val (.long (min64 (max64 a b) (max64 cc dd))), .second, .val (.long y3), .second, .val (.long z1), .second, .val (.long z2), .second, .val (.ref sa), .val (.int (3 : Int32)), .val (.int md), .val (.long qy), .second, .val (.ref mo), .val (.int (2 : Int32))] at_289 rfl rfl ?_
                      refine WP.iload K 293 at_291 rfl rfl ?_
                      refine WP.iconst K (3 : Int32) 294 at_293 rfl rfl ?_
                      refine WP.icmp_le K 310 297 at_294 (by decide) rfl (fun c294 => ?_) (fun c294 => ?_)
                      · skip
                        refine WP.aload K 312 at_310 rfl rfl rfl ?_
                        refine WP.lload K 314 at_312 rfl rfl ?_
                        refine WP.callV K (a := mo) (C := "com/example/vestline/vestline/io/Marks") 317 3 134 0 [(.long qy)] [] (hw _ (List.mem_of_getElem? (i := 26) rfl)) (hw _ (List.mem_of_getElem? (i := 27) rfl)) rfl (hw _ (List.mem_of_getElem? (i := 29) rfl)) (hw _ (List.mem_of_getElem? (i := 28) rfl)) (hw _ (List.mem_of_getElem? (i := 10) rfl)) (hw _ (List.mem_of_getElem? (i := 30) rfl)) (by decide) own_pd_2 rfl rfl rfl (by decide) (by decide) (Nat.le_of_eq rfl) rfl at_314 rfl rfl rfl (by decide) (by decide) X_mo (own_last l Z a0 hw n0 h75 mo p qy ((((0 : Int32) + 1) + 1) + 1) 3 (((((((List.replicate 128 0).set (2 * 0) y0).set (2 * 0 + 1) (0 : Int64)).set (2 * 1) z1).set (2 * 1 + 1) (1 : Int64)).set (2 * 2) z2).set (2 * 2 + 1) (2 : Int64)) Fp Fc A_p rfl (by simp)) (r1_next fun r83 h81 q82 => ?_)
                        obtain ⟨⟨zr, m, rfl, hz, hm1, hm2, hm3⟩, rfl⟩ := q82
                        refine WP.iload K 319 at_317 rfl rfl ?_
                        refine WP.icmp_ne K 326 322 at_319 (by decide) rfl (fun c319 => ?_) (fun c319 => ?_)
                        · skip
                          refine WP.iconst K (0 : Int32) 327 at_326 rfl rfl ?_
                          refine WP.iret K rfl (Or.inr (Or.inl rfl)) rfl at_327 ?_ (by decide) (by decide)
                          exfalso
                          have w1 : own_at (((((((List.replicate 128 0).set (2 * 0) y0).set (2 * 0 + 1) (0 : Int64)).set (2 * 1) z1).set (2 * 1 + 1) (1 : Int64)).set (2 * 2) z2).set (2 * 2 + 1) (2 : Int64)) 1 = z1 := rfl
                          have w2 : own_at (((((((List.replicate 128 0).set (2 * 0) y0).set (2 * 0 + 1) (0 : Int64)).set (2 * 1) z1).set (2 * 1 + 1) (1 : Int64)).set (2 * 2) z2).set (2 * 2 + 1) (2 : Int64)) 2 = z2 := rfl
                          have hm : m = 0 ∨ m = 1 ∨ m = 2 := by omega
                          rcases hm with rfl | rfl | rfl
                          · rw [show 0 + 1 = 1 from rfl, w1] at hm3; omega
                          · rw [w1] at hm2; rw [show 1 + 1 = 2 from rfl, w2] at hm3; omega
                          · rw [w2] at hm2; omega
                        · skip
                          refine WP.iconst K (1 : Int32) 323 at_322 rfl rfl ?_
                          refine WP.goto K 327 at_323 (by decide) ?_
                          refine WP.iret K rfl (Or.inr (Or.inl rfl)) rfl at_327 ?_ (by decide) (by decide)
                          exact ⟨_, rfl, rfl⟩
                      · skip
                        exact absurd c294 (by decide)
                · skip
                  refine WP.iconst K (1 : Int32) 270 at_269 rfl rfl ?_
                  refine WP.istore K 272 [.val (.long a), .second, .val (.long b), .second, .val (.long cc), .second, .val (.long dd), .second, .val (.long qq), .second, .val (.int kk), .val (.long (min64 a b)), .second, .val (.long (max64 a b)), .second, .val (.long (min64 cc dd)), .second, .val (.long (max64 cc dd)), .second, .val (.long y0), .second, .val (.long (max64 (min64 a b) (min64 cc dd))), .second, .val (.long (min64 (max64 a b) (max64 cc dd))), .second, .val (.long y3), .second, .val (.long z1), .second, .val (.long z2), .second, .val (.ref sa), .val (.int (3 : Int32)), .val (.int md), .val (.long qy), .second, .val (.ref mo), .val (.int (1 : Int32))] at_270 rfl rfl ?_
                  refine WP.iload K 274 at_272 rfl rfl ?_
                  refine WP.iconst K (2 : Int32) 275 at_274 rfl rfl ?_
                  refine WP.icmp_le K 291 278 at_275 (by decide) rfl (fun c275 => ?_) (fun c275 => ?_)
                  · skip
                    exact absurd c275 (by decide)
                  · skip
                    refine WP.aload K 280 at_278 rfl rfl rfl ?_
                    refine WP.iconst K (2 : Int32) 281 at_280 rfl rfl ?_
                    refine WP.laload K 282 2 A_sa rfl rfl at_281 rfl ?_
                    refine WP.lload K 284 at_282 rfl rfl ?_
                    refine WP.lcmp K 285 at_284 rfl ?_
                    refine WP.ifl_gt K 291 288 at_285 (by decide) rfl (fun c285 => ?_) (fun c285 => ?_)
                    · skip
                      refine WP.iload K 293 at_291 rfl rfl ?_
                      refine WP.iconst K (3 : Int32) 294 at_293 rfl rfl ?_
                      refine WP.icmp_le K 310 297 at_294 (by decide) rfl (fun c294 => ?_) (fun c294 => ?_)
                      · skip
                        refine WP.aload K 312 at_310 rfl rfl rfl ?_
                        refine WP.lload K 314 at_312 rfl rfl ?_
                        refine WP.callV K (a := mo) (C := "com/example/vestline/vestline/io/Marks") 317 3 134 0 [(.long qy)] [] (hw _ (List.mem_of_getElem? (i := 26) rfl)) (hw _ (List.mem_of_getElem? (i := 27) rfl)) rfl (hw _ (List.mem_of_getElem? (i := 29) rfl)) (hw _ (List.mem_of_getElem? (i := 28) rfl)) (hw _ (List.mem_of_getElem? (i := 10) rfl)) (hw _ (List.mem_of_getElem? (i := 30) rfl)) (by decide) own_pd_2 rfl rfl rfl (by decide) (by decide) (Nat.le_of_eq rfl) rfl at_314 rfl rfl rfl (by decide) (by decide) X_mo (own_last l Z a0 hw n0 h75 mo p qy ((((0 : Int32) + 1) + 1) + 1) 3 (((((((List.replicate 128 0).set (2 * 0) y0).set (2 * 0 + 1) (0 : Int64)).set (2 * 1) z1).set (2 * 1 + 1) (1 : Int64)).set (2 * 2) z2).set (2 * 2 + 1) (2 : Int64)) Fp Fc A_p rfl (by simp)) (r1_next fun r86 h84 q85 => ?_)
                        obtain ⟨⟨zr, m, rfl, hz, hm1, hm2, hm3⟩, rfl⟩ := q85
                        refine WP.iload K 319 at_317 rfl rfl ?_
                        refine WP.icmp_ne K 326 322 at_319 (by decide) rfl (fun c319 => ?_) (fun c319 => ?_)
                        · skip
                          refine WP.iconst K (0 : Int32) 327 at_326 rfl rfl ?_
                          refine WP.iret K rfl (Or.inr (Or.inl rfl)) rfl at_327 ?_ (by decide) (by decide)
                          exfalso
                          have w1 : own_at (((((((List.replicate 128 0).set (2 * 0) y0).set (2 * 0 + 1) (0 : Int64)).set (2 * 1) z1).set (2 * 1 + 1) (1 : Int64)).set (2 * 2) z2).set (2 * 2 + 1) (2 : Int64)) 1 = z1 := rfl
                          have w2 : own_at (((((((List.replicate 128 0).set (2 * 0) y0).set (2 * 0 + 1) (0 : Int64)).set (2 * 1) z1).set (2 * 1 + 1) (1 : Int64)).set (2 * 2) z2).set (2 * 2 + 1) (2 : Int64)) 2 = z2 := rfl
                          have hm : m = 0 ∨ m = 1 ∨ m = 2 := by omega
                          rcases hm with rfl | rfl | rfl
                          · rw [show 0 + 1 = 1 from rfl, w1] at hm3; omega
                          · rw [w1] at hm2; rw [show 1 + 1 = 2 from rfl, w2] at hm3; omega
                          · rw [w2] at hm2; omega
                        · skip
                          refine WP.iconst K (1 : Int32) 323 at_322 rfl rfl ?_
                          refine WP.goto K 327 at_323 (by decide) ?_
                          refine WP.iret K rfl (Or.inr (Or.inl rfl)) rfl at_327 ?_ (by decide) (by decide)
                          exact ⟨_, rfl, rfl⟩
                      · skip
                        exact absurd c294 (by decide)
                    · skip
                      refine WP.iconst K (2 : Int32) 289 at_288 rfl rfl ?_
                      refine WP.istore K 291 [.val (.long a), .second, .val (.long b), .second, .val (.long cc), .second, .val (.long dd), .second, .val (.long qq), .second, .val (.int kk), .val (.long (min64 a b)), .second, .val (.long (max64 a b)), .second, .val (.long (min64 cc dd)), .second, .val (.long (max64 cc dd)), .second, .val (.long y0), .second, .val (.long (max64 (min64 a b) (min64 cc dd))), .second, .val (.long (min64 (max64 a b) (max64 cc dd))), .second, .val (.long y3), .second, .val (.long z1), .second, .val (.long z2), .second, .val (.ref sa), .val (.int (3 : Int32)), .val (.int md), .val (.long qy), .second, .val (.ref mo), .val (.int (2 : Int32))] at_289 rfl rfl ?_
                      refine WP.iload K 293 at_291 rfl rfl ?_
                      refine WP.iconst K (3 : Int32) 294 at_293 rfl rfl ?_
                      refine WP.icmp_le K 310 297 at_294 (by decide) rfl (fun c294 => ?_) (fun c294 => ?_)
                      · skip
                        refine WP.aload K 312 at_310 rfl rfl rfl ?_
                        refine WP.lload K 314 at_312 rfl rfl ?_
                        refine WP.callV K (a := mo) (C := "com/example/vestline/vestline/io/Marks") 317 3 134 0 [(.long qy)] [] (hw _ (List.mem_of_getElem? (i := 26) rfl)) (hw _ (List.mem_of_getElem? (i := 27) rfl)) rfl (hw _ (List.mem_of_getElem? (i := 29) rfl)) (hw _ (List.mem_of_getElem? (i := 28) rfl)) (hw _ (List.mem_of_getElem? (i := 10) rfl)) (hw _ (List.mem_of_getElem? (i := 30) rfl)) (by decide) own_pd_2 rfl rfl rfl (by decide) (by decide) (Nat.le_of_eq rfl) rfl at_314 rfl rfl rfl (by decide) (by decide) X_mo (own_last l Z a0 hw n0 h75 mo p qy ((((0 : Int32) + 1) + 1) + 1) 3 (((((((List.replicate 128 0).set (2 * 0) y0).set (2 * 0 + 1) (0 : Int64)).set (2 * 1) z1).set (2 * 1 + 1) (1 : Int64)).set (2 * 2) z2).set (2 * 2 + 1) (2 : Int64)) Fp Fc A_p rfl (by simp)) (r1_next fun r89 h87 q88 => ?_)
                        obtain ⟨⟨zr, m, rfl, hz, hm1, hm2, hm3⟩, rfl⟩ := q88
                        refine WP.iload K 319 at_317 rfl rfl ?_
                        refine WP.icmp_ne K 326 322 at_319 (by decide) rfl (fun c319 => ?_) (fun c319 => ?_)
                        · skip
                          refine WP.iconst K (0 : Int32) 327 at_326 rfl rfl ?_
                          refine WP.iret K rfl (Or.inr (Or.inl rfl)) rfl at_327 ?_ (by decide) (by decide)
                          exfalso
                          have w1 : own_at (((((((List.replicate 128 0).set (2 * 0) y0).set (2 * 0 + 1) (0 : Int64)).set (2 * 1) z1).set (2 * 1 + 1) (1 : Int64)).set (2 * 2) z2).set (2 * 2 + 1) (2 : Int64)) 1 = z1 := rfl
                          have w2 : own_at (((((((List.replicate 128 0).set (2 * 0) y0).set (2 * 0 + 1) (0 : Int64)).set (2 * 1) z1).set (2 * 1 + 1) (1 : Int64)).set (2 * 2) z2).set (2 * 2 + 1) (2 : Int64)) 2 = z2 := rfl
                          have hm : m = 0 ∨ m = 1 ∨ m = 2 := by omega
                          rcases hm with rfl | rfl | rfl
                          · rw [show 0 + 1 = 1 from rfl, w1] at hm3; omega
                          · rw [w1] at hm2; rw [show 1 + 1 = 2 from rfl, w2] at hm3; omega
                          · rw [w2] at hm2; omega
                        · skip
                          refine WP.iconst K (1 : Int32) 323 at_322 rfl rfl ?_
                          refine WP.goto K 327 at_323 (by decide) ?_
                          refine WP.iret K rfl (Or.inr (Or.inl rfl)) rfl at_327 ?_ (by decide) (by decide)
                          exact ⟨_, rfl, rfl⟩
                      · skip
                        exact absurd c294 (by decide)
            · skip
              exact absurd c235 (by decide)
    · skip
      refine WP.iload K 185 at_183 rfl rfl ?_
      refine WP.if_le K 198 188 at_185 (by decide) rfl (fun c185 => ?_) (fun c185 => ?_)
      · skip
        exact absurd c185 (by decide)
      · skip
        refine WP.aload K 190 at_188 rfl rfl rfl ?_
        refine WP.aload K 192 at_190 rfl rfl rfl ?_
        refine WP.iconst K (0 : Int32) 193 at_192 rfl rfl ?_
        refine WP.laload K 194 0 A_sa rfl rfl at_193 rfl ?_
        refine WP.lconst K (0 : Int64) 195 at_194 rfl rfl ?_
        refine WP.callV K (a := mo) (C := "com/example/vestline/vestline/io/Marks") 198 3 134 0 [(.long y0), (.long (0 : Int64))] [] (hw _ (List.mem_of_getElem? (i := 19) rfl)) (hw _ (List.mem_of_getElem? (i := 20) rfl)) rfl (hw _ (List.mem_of_getElem? (i := 22) rfl)) (hw _ (List.mem_of_getElem? (i := 21) rfl)) (hw _ (List.mem_of_getElem? (i := 10) rfl)) (hw _ (List.mem_of_getElem? (i := 23) rfl)) (by decide) own_pd_3 rfl rfl rfl (by decide) (by decide) (Nat.le_of_eq rfl) rfl at_195 rfl rfl rfl (by decide) (by decide) X_mo (own_note l Z a0 hw n0 h45 mo p y0 (0 : Int64) (0 : Int32) 0 (List.replicate 128 0) X_mo Fp Fc A_p rfl (by simp) n0_mo n0_p (by omega)) (r0_next fun h90 q91 => ?_)
        obtain ⟨Kn, Fp, Fc, A_p⟩ := q91
        have Z0 : n0 ≤ (h90).size := Nat.le_trans Z0 Kn.1
        have A_sa := A_sa.keep Kn (nm2 (by omega))
        have X_mo := X_mo.keep Kn
        refine WP.iload K 200 at_198 rfl rfl ?_
        refine WP.iconst K (1 : Int32) 201 at_200 rfl rfl ?_
        refine WP.icmp_le K 214 204 at_201 (by decide) rfl (fun c201 => ?_) (fun c201 => ?_)
        · skip
          exact absurd c201 (by decide)
        · skip
          refine WP.aload K 206 at_204 rfl rfl rfl ?_
          refine WP.aload K 208 at_206 rfl rfl rfl ?_
          refine WP.iconst K (1 : Int32) 209 at_208 rfl rfl ?_
          refine WP.laload K 210 1 A_sa rfl rfl at_209 rfl ?_
          refine WP.lconst K (1 : Int64) 211 at_210 rfl rfl ?_
          refine WP.callV K (a := mo) (C := "com/example/vestline/vestline/io/Marks") 214 3 134 0 [(.long z1), (.long (1 : Int64))] [] (hw _ (List.mem_of_getElem? (i := 19) rfl)) (hw _ (List.mem_of_getElem? (i := 20) rfl)) rfl (hw _ (List.mem_of_getElem? (i := 22) rfl)) (hw _ (List.mem_of_getElem? (i := 21) rfl)) (hw _ (List.mem_of_getElem? (i := 10) rfl)) (hw _ (List.mem_of_getElem? (i := 23) rfl)) (by decide) own_pd_3 rfl rfl rfl (by decide) (by decide) (Nat.le_of_eq rfl) rfl at_211 rfl rfl rfl (by decide) (by decide) X_mo (own_note l Z a0 hw n0 h90 mo p z1 (1 : Int64) ((0 : Int32) + 1) 1 (((List.replicate 128 0).set (2 * 0) y0).set (2 * 0 + 1) (0 : Int64)) X_mo Fp Fc A_p rfl (by simp) n0_mo n0_p (by omega)) (r0_next fun h93 q94 => ?_)
          obtain ⟨Kn, Fp, Fc, A_p⟩ := q94
          have Z0 : n0 ≤ (h93).size := Nat.le_trans Z0 Kn.1
          have A_sa := A_sa.keep Kn (nm2 (by omega))
          have X_mo := X_mo.keep Kn
          refine WP.iload K 216 at_214 rfl rfl ?_
          refine WP.iconst K (2 : Int32) 217 at_216 rfl rfl ?_
          refine WP.icmp_le K 232 220 at_217 (by decide) rfl (fun c217 => ?_) (fun c217 => ?_)
          · skip
            exact absurd c217 (by decide)
          · skip
            refine WP.aload K 222 at_220 rfl rfl rfl ?_
            refine WP.aload K 224 at_222 rfl rfl rfl ?_
            refine WP.iconst K (2 : Int32) 225 at_224 rfl rfl ?_
            refine WP.laload K 226 2 A_sa rfl rfl at_225 rfl ?_
            refine WP.ldc2J K (v := (2 : Int64)) 229 (hw _ (List.mem_of_getElem? (i := 31) rfl)) at_226 rfl ?_
            refine WP.callV K (a := mo) (C := "com/example/vestline/vestline/io/Marks") 232 3 134 0 [(.long z2), (.long (2 : Int64))] [] (hw _ (List.mem_of_getElem? (i := 19) rfl)) (hw _ (List.mem_of_getElem? (i := 20) rfl)) rfl (hw _ (List.mem_of_getElem? (i := 22) rfl)) (hw _ (List.mem_of_getElem? (i := 21) rfl)) (hw _ (List.mem_of_getElem? (i := 10) rfl)) (hw _ (List.mem_of_getElem? (i := 23) rfl)) (by decide) own_pd_3 rfl rfl rfl (by decide) (by decide) (Nat.le_of_eq rfl) rfl at_229 rfl rfl rfl (by decide) (by decide) X_mo (own_note l Z a0 hw n0 h93 mo p z2 (2 : Int64) (((0 : Int32) + 1) + 1) 2 (((((List.replicate 128 0).set (2 * 0) y0).set (2 * 0 + 1) (0 : Int64)).set (2 * 1) z1).set (2 * 1 + 1) (1 : Int64)) X_mo Fp Fc A_p rfl (by simp) n0_mo n0_p (by omega)) (r0_next fun h96 q97 => ?_)
            obtain ⟨Kn, Fp, Fc, A_p⟩ := q97
            have Z0 : n0 ≤ (h96).size := Nat.le_trans Z0 Kn.1
            have A_sa := A_sa.keep Kn (nm2 (by omega))
            have X_mo := X_mo.keep Kn
            refine WP.iload K 234 at_232 rfl rfl ?_
            refine WP.iconst K (3 : Int32) 235 at_234 rfl rfl ?_
            refine WP.icmp_le K 250 238 at_235 (by decide) rfl (fun c235 => ?_) (fun c235 => ?_)
            · skip
              exact absurd c235 (by decide)
            · skip
              refine WP.aload K 240 at_238 rfl rfl rfl ?_
              refine WP.aload K 242 at_240 rfl rfl rfl ?_
              refine WP.iconst K (3 : Int32) 243 at_242 rfl rfl ?_
              refine WP.laload K 244 3 A_sa rfl rfl at_243 rfl ?_
              refine WP.ldc2J K (v := (3 : Int64)) 247 (hw _ (List.mem_of_getElem? (i := 32) rfl)) at_244 rfl ?_
              refine WP.callV K (a := mo) (C := "com/example/vestline/vestline/io/Marks") 250 3 134 0 [(.long y3), (.long (3 : Int64))] [] (hw _ (List.mem_of_getElem? (i := 19) rfl)) (hw _ (List.mem_of_getElem? (i := 20) rfl)) rfl (hw _ (List.mem_of_getElem? (i := 22) rfl)) (hw _ (List.mem_of_getElem? (i := 21) rfl)) (hw _ (List.mem_of_getElem? (i := 10) rfl)) (hw _ (List.mem_of_getElem? (i := 23) rfl)) (by decide) own_pd_3 rfl rfl rfl (by decide) (by decide) (Nat.le_of_eq rfl) rfl at_247 rfl rfl rfl (by decide) (by decide) X_mo (own_note l Z a0 hw n0 h96 mo p y3 (3 : Int64) ((((0 : Int32) + 1) + 1) + 1) 3 (((((((List.replicate 128 0).set (2 * 0) y0).set (2 * 0 + 1) (0 : Int64)).set (2 * 1) z1).set (2 * 1 + 1) (1 : Int64)).set (2 * 2) z2).set (2 * 2 + 1) (2 : Int64)) X_mo Fp Fc A_p rfl (by simp) n0_mo n0_p (by omega)) (r0_next fun h99 q100 => ?_)
              obtain ⟨Kn, Fp, Fc, A_p⟩ := q100
              have Z0 : n0 ≤ (h99).size := Nat.le_trans Z0 Kn.1
              have A_sa := A_sa.keep Kn (nm2 (by omega))
              have X_mo := X_mo.keep Kn
              refine WP.iconst K (0 : Int32) 251 at_250 rfl rfl ?_
              refine WP.istore K 253 [.val (.long a), .second, .val (.long b), .second, .val (.long cc), .second, .val (.long dd), .second, .val (.long qq), .second, .val (.int kk), .val (.long (min64 a b)), .second, .val (.long (max64 a b)), .second, .val (.long (min64 cc dd)), .second, .val (.long (max64 cc dd)), .second, .val (.long y0), .second, .val (.long (max64 (min64 a b) (min64 cc dd))), .second, .val (.long (min64 (max64 a b) (max64 cc dd))), .second, .val (.long y3), .second, .val (.long z1), .second, .val (.long z2), .second, .val (.ref sa), .val (.int (4 : Int32)), .val (.int md), .val (.long qy), .second, .val (.ref mo), .val (.int (0 : Int32))] at_251 rfl rfl ?_
              refine WP.iload K 255 at_253 rfl rfl ?_
              refine WP.iconst K (1 : Int32) 256 at_255 rfl rfl ?_
              refine WP.icmp_le K 272 259 at_256 (by decide) rfl (fun c256 => ?_) (fun c256 => ?_)
              · skip
                exact absurd c256 (by decide)
              · skip
                refine WP.aload K 261 at_259 rfl rfl rfl ?_
                refine WP.iconst K (1 : Int32) 262 at_261 rfl rfl ?_
                refine WP.laload K 263 1 A_sa rfl rfl at_262 rfl ?_
                refine WP.lload K 265 at_263 rfl rfl ?_
                refine WP.lcmp K 266 at_265 rfl ?_
                refine WP.ifl_gt K 272 269 at_266 (by decide) rfl (fun c266 => ?_) (fun c266 => ?_)
                · skip
                  refine WP.iload K 274 at_272 rfl rfl ?_
                  refine WP.iconst K (2 : Int32) 275 at_274 rfl rfl ?_
                  refine WP.icmp_le K 291 278 at_275 (by decide) rfl (fun c275 => ?_) (fun c275 => ?_)
                  · skip
                    exact absurd c275 (by decide)
                  · skip
                    refine WP.aload K 280 at_278 rfl rfl rfl ?_
                    refine WP.iconst K (2 : Int32) 281 at_280 rfl rfl ?_
                    refine WP.laload K 282 2 A_sa rfl rfl at_281 rfl ?_
                    refine WP.lload K 284 at_282 rfl rfl ?_
                    refine WP.lcmp K 285 at_284 rfl ?_
                    refine WP.ifl_gt K 291 288 at_285 (by decide) rfl (fun c285 => ?_) (fun c285 => ?_)
                    · skip
                      refine WP.iload K 293 at_291 rfl rfl ?_
                      refine WP.iconst K (3 : Int32) 294 at_293 rfl rfl ?_
                      refine WP.icmp_le K 310 297 at_294 (by decide) rfl (fun c294 => ?_) (fun c294 => ?_)
                      · skip
                        exact absurd c294 (by decide)
                      · skip
                        refine WP.aload K 299 at_297 rfl rfl rfl ?_
                        refine WP.iconst K (3 : Int32) 300 at_299 rfl rfl ?_
                        refine WP.laload K 301 3 A_sa rfl rfl at_300 rfl ?_
                        refine WP.lload K 303 at_301 rfl rfl ?_
                        refine WP.lcmp K 304 at_303 rfl ?_
                        refine WP.ifl_gt K 310 307 at_304 (by decide) rfl (fun c304 => ?_) (fun c304 => ?_)
                        · skip
                          refine WP.aload K 312 at_310 rfl rfl rfl ?_
                          refine WP.lload K 314 at_312 rfl rfl ?_
                          refine WP.callV K (a := mo) (C := "com/example/vestline/vestline/io/Marks") 317 3 134 0 [(.long qy)] [] (hw _ (List.mem_of_getElem? (i := 26) rfl)) (hw _ (List.mem_of_getElem? (i := 27) rfl)) rfl (hw _ (List.mem_of_getElem? (i := 29) rfl)) (hw _ (List.mem_of_getElem? (i := 28) rfl)) (hw _ (List.mem_of_getElem? (i := 10) rfl)) (hw _ (List.mem_of_getElem? (i := 30) rfl)) (by decide) own_pd_2 rfl rfl rfl (by decide) (by decide) (Nat.le_of_eq rfl) rfl at_314 rfl rfl rfl (by decide) (by decide) X_mo (own_last l Z a0 hw n0 h99 mo p qy (((((0 : Int32) + 1) + 1) + 1) + 1) 4 (((((((((List.replicate 128 0).set (2 * 0) y0).set (2 * 0 + 1) (0 : Int64)).set (2 * 1) z1).set (2 * 1 + 1) (1 : Int64)).set (2 * 2) z2).set (2 * 2 + 1) (2 : Int64)).set (2 * 3) y3).set (2 * 3 + 1) (3 : Int64)) Fp Fc A_p rfl (by simp)) (r1_next fun r104 h102 q103 => ?_)
                          obtain ⟨⟨zr, m, rfl, hz, hm1, hm2, hm3⟩, rfl⟩ := q103
                          refine WP.iload K 319 at_317 rfl rfl ?_
                          refine WP.icmp_ne K 326 322 at_319 (by decide) rfl (fun c319 => ?_) (fun c319 => ?_)
                          · skip
                            refine WP.iconst K (0 : Int32) 327 at_326 rfl rfl ?_
                            refine WP.iret K rfl (Or.inr (Or.inl rfl)) rfl at_327 ?_ (by decide) (by decide)
                            exfalso
                            have w1 : own_at (((((((((List.replicate 128 0).set (2 * 0) y0).set (2 * 0 + 1) (0 : Int64)).set (2 * 1) z1).set (2 * 1 + 1) (1 : Int64)).set (2 * 2) z2).set (2 * 2 + 1) (2 : Int64)).set (2 * 3) y3).set (2 * 3 + 1) (3 : Int64)) 1 = z1 := rfl
                            have w2 : own_at (((((((((List.replicate 128 0).set (2 * 0) y0).set (2 * 0 + 1) (0 : Int64)).set (2 * 1) z1).set (2 * 1 + 1) (1 : Int64)).set (2 * 2) z2).set (2 * 2 + 1) (2 : Int64)).set (2 * 3) y3).set (2 * 3 + 1) (3 : Int64)) 2 = z2 := rfl
                            have w3 : own_at (((((((((List.replicate 128 0).set (2 * 0) y0).set (2 * 0 + 1) (0 : Int64)).set (2 * 1) z1).set (2 * 1 + 1) (1 : Int64)).set (2 * 2) z2).set (2 * 2 + 1) (2 : Int64)).set (2 * 3) y3).set (2 * 3 + 1) (3 : Int64)) 3 = y3 := rfl
                            have hm : m = 0 ∨ m = 1 ∨ m = 2 ∨ m = 3 := by omega
                            rcases hm with rfl | rfl | rfl | rfl
                            · rw [show 0 + 1 = 1 from rfl, w1] at hm3; omega
                            · rw [w1] at hm2; rw [show 1 + 1 = 2 from rfl, w2] at hm3; omega
                            · rw [w2] at hm2; rw [show 2 + 1 = 3 from rfl, w3] at hm3; omega
                            · rw [w3] at hm2; omega
                          · skip
                            refine WP.iconst K (1 : Int32) 323 at_322 rfl rfl ?_
                            refine WP.goto K 327 at_323 (by decide) ?_
                            refine WP.iret K rfl (Or.inr (Or.inl rfl)) rfl at_327 ?_ (by decide) (by decide)
                            exact ⟨_, rfl, rfl⟩
                        · skip
                          refine WP.iconst K (3 : Int32) 308 at_307 rfl rfl ?_
                          refine WP.istore K 310 [.val (.long a), .second, .val (.long b), .second, .val (.long cc), .second, .val (.long dd), .second, .val (.long qq), .second, .val (.int kk), .val (.long (min64 a b)), .second, .val (.long (max64 a b)), .second, .val (.long (min64 cc dd)), .second, .val (.long (max64 cc dd)), .second, .val (.long y0), .second, .val (.long (max64 (min64 a b) (min64 cc dd))), .second, .val (.long (min64 (max64 a b) (max64 cc dd))), .second, .val (.long y3), .second, .val (.long z1), .second, .val (.long z2), .second, .val (.ref sa), .val (.int (4 : Int32)), .val (.int md), .val (.long qy), .second, .val (.ref mo), .val (.int (3 : Int32))] at_308 rfl rfl ?_
                          refine WP.aload K 312 at_310 rfl rfl rfl ?_
                          refine WP.lload K 314 at_312 rfl rfl ?_
                          refine WP.callV K (a := mo) (C := "com/example/vestline/vestline/io/Marks") 317 3 134 0 [(.long qy)] [] (hw _ (List.mem_of_getElem? (i := 26) rfl)) (hw _ (List.mem_of_getElem? (i := 27) rfl)) rfl (hw _ (List.mem_of_getElem? (i := 29) rfl)) (hw _ (List.mem_of_getElem? (i := 28) rfl)) (hw _ (List.mem_of_getElem? (i := 10) rfl)) (hw _ (List.mem_of_getElem? (i := 30) rfl)) (by decide) own_pd_2 rfl rfl rfl (by decide) (by decide) (Nat.le_of_eq rfl) rfl at_314 rfl rfl rfl (by decide) (by decide) X_mo (own_last l Z a0 hw n0 h99 mo p qy (((((0 : Int32) + 1) + 1) + 1) + 1) 4 (((((((((List.replicate 128 0).set (2 * 0) y0).set (2 * 0 + 1) (0 : Int64)).set (2 * 1) z1).set (2 * 1 + 1) (1 : Int64)).set (2 * 2) z2).set (2 * 2 + 1) (2 : Int64)).set (2 * 3) y3).set (2 * 3 + 1) (3 : Int64)) Fp Fc A_p rfl (by simp)) (r1_next fun r107 h105 q106 => ?_)
                          obtain ⟨⟨zr, m, rfl, hz, hm1, hm2, hm3⟩, rfl⟩ := q106
                          refine WP.iload K 319 at_317 rfl rfl ?_
                          refine WP.icmp_ne K 326 322 at_319 (by decide) rfl (fun c319 => ?_) (fun c319 => ?_)
                          · skip
                            refine WP.iconst K (0 : Int32) 327 at_326 rfl rfl ?_
                            refine WP.iret K rfl (Or.inr (Or.inl rfl)) rfl at_327 ?_ (by decide) (by decide)
                            exfalso
                            have w1 : own_at (((((((((List.replicate 128 0).set (2 * 0) y0).set (2 * 0 + 1) (0 : Int64)).set (2 * 1) z1).set (2 * 1 + 1) (1 : Int64)).set (2 * 2) z2).set (2 * 2 + 1) (2 : Int64)).set (2 * 3) y3).set (2 * 3 + 1) (3 : Int64)) 1 = z1 := rfl
                            have w2 : own_at (((((((((List.replicate 128 0).set (2 * 0) y0).set (2 * 0 + 1) (0 : Int64)).set (2 * 1) z1).set (2 * 1 + 1) (1 : Int64)).set (2 * 2) z2).set (2 * 2 + 1) (2 : Int64)).set (2 * 3) y3).set (2 * 3 + 1) (3 : Int64)) 2 = z2 := rfl
                            have w3 : own_at (((((((((List.replicate 128 0).set (2 * 0) y0).set (2 * 0 + 1) (0 : Int64)).set (2 * 1) z1).set (2 * 1 + 1) (1 : Int64)).set (2 * 2) z2).set (2 * 2 + 1) (2 : Int64)).set (2 * 3) y3).set (2 * 3 + 1) (3 : Int64)) 3 = y3 := rfl
                            have hm : m = 0 ∨ m = 1 ∨ m = 2 ∨ m = 3 := by omega
                            rcases hm with rfl | rfl | rfl | rfl
                            · rw [show 0 + 1 = 1 from rfl, w1] at hm3; omega
                            · rw [w1] at hm2; rw [show 1 + 1 = 2 from rfl, w2] at hm3; omega
                            · rw [w2] at hm2; rw [show 2 + 1 = 3 from rfl, w3] at hm3; omega
                            · rw [w3] at hm2; omega
                          · skip
                            refine WP.iconst K (1 : Int32) 323 at_322 rfl rfl ?_
                            refine WP.goto K 327 at_323 (by decide) ?_
                            refine WP.iret K rfl (Or.inr (Or.inl rfl)) rfl at_327 ?_ (by decide) (by decide)
                            exact ⟨_, rfl, rfl⟩
                    · skip
                      refine WP.iconst K (2 : Int32) 289 at_288 rfl rfl ?_
                      refine WP.istore K 291 [.val (.long a), .second, .val (.long b), .second, .val (.long cc), .second, .val (.long dd), .second, .val (.long qq), .second, .val (.int kk), .val (.long (min64 a b)), .second, .val (.long (max64 a b)), .second, .val (.long (min64 cc dd)), .second, .val (.long (max64 cc dd)), .second, .val (.long y0), .second, .val (.long (max64 (min64 a b) (min64 cc dd))), .second, .val (.long (min64 (max64 a b) (max64 cc dd))), .second, .val (.long y3), .second, .val (.long z1), .second, .val (.long z2), .second, .val (.ref sa), .val (.int (4 : Int32)), .val (.int md), .val (.long qy), .second, .val (.ref mo), .val (.int (2 : Int32))] at_289 rfl rfl ?_
                      refine WP.iload K 293 at_291 rfl rfl ?_
                      refine WP.iconst K (3 : Int32) 294 at_293 rfl rfl ?_
                      refine WP.icmp_le K 310 297 at_294 (by decide) rfl (fun c294 => ?_) (fun c294 => ?_)
                      · skip
                        exact absurd c294 (by decide)
                      · skip
                        refine WP.aload K 299 at_297 rfl rfl rfl ?_
                        refine WP.iconst K (3 : Int32) 300 at_299 rfl rfl ?_
                        refine WP.laload K 301 3 A_sa rfl rfl at_300 rfl ?_
                        refine WP.lload K 303 at_301 rfl rfl ?_
                        refine WP.lcmp K 304 at_303 rfl ?_
                        refine WP.ifl_gt K 310 307 at_304 (by decide) rfl (fun c304 => ?_) (fun c304 => ?_)
                        · skip
                          refine WP.aload K 312 at_310 rfl rfl rfl ?_
                          refine WP.lload K 314 at_312 rfl rfl ?_
                          refine WP.callV K (a := mo) (C := "com/example/vestline/vestline/io/Marks") 317 3 134 0 [(.long qy)] [] (hw _ (List.mem_of_getElem? (i := 26) rfl)) (hw _ (List.mem_of_getElem? (i := 27) rfl)) rfl (hw _ (List.mem_of_getElem? (i := 29) rfl)) (hw _ (List.mem_of_getElem? (i := 28) rfl)) (hw _ (List.mem_of_getElem? (i := 10) rfl)) (hw _ (List.mem_of_getElem? (i := 30) rfl)) (by decide) own_pd_2 rfl rfl rfl (by decide) (by decide) (Nat.le_of_eq rfl) rfl at_314 rfl rfl rfl (by decide) (by decide) X_mo (own_last l Z a0 hw n0 h99 mo p qy (((((0 : Int32) + 1) + 1) + 1) + 1) 4 (((((((((List.replicate 128 0).set (2 * 0) y0).set (2 * 0 + 1) (0 : Int64)).set (2 * 1) z1).set (2 * 1 + 1) (1 : Int64)).set (2 * 2) z2).set (2 * 2 + 1) (2 : Int64)).set (2 * 3) y3).set (2 * 3 + 1) (3 : Int64)) Fp Fc A_p rfl (by simp)) (r1_next fun r110 h108 q109 => ?_)
                          obtain ⟨⟨zr, m, rfl, hz, hm1, hm2, hm3⟩, rfl⟩ := q109
                          refine WP.iload K 319 at_317 rfl rfl ?_
                          refine WP.icmp_ne K 326 322 at_319 (by decide) rfl (fun c319 => ?_) (fun c319 => ?_)
                          · skip
                            refine WP.iconst K (0 : Int32) 327 at_326 rfl rfl ?_
                            refine WP.iret K rfl (Or.inr (Or.inl rfl)) rfl at_327 ?_ (by decide) (by decide)
                            exfalso
                            have w1 : own_at (((((((((List.replicate 128 0).set (2 * 0) y0).set (2 * 0 + 1) (0 : Int64)).set (2 * 1) z1).set (2 * 1 + 1) (1 : Int64)).set (2 * 2) z2).set (2 * 2 + 1) (2 : Int64)).set (2 * 3) y3).set (2 * 3 + 1) (3 : Int64)) 1 = z1 := rfl
                            have w2 : own_at (((((((((List.replicate 128 0).set (2 * 0) y0).set (2 * 0 + 1) (0 : Int64)).set (2 * 1) z1).set (2 * 1 + 1) (1 : Int64)).set (2 * 2) z2).set (2 * 2 + 1) (2 : Int64)).set (2 * 3) y3).set (2 * 3 + 1) (3 : Int64)) 2 = z2 := rfl
                            have w3 : own_at (((((((((List.replicate 128 0).set (2 * 0) y0).set (2 * 0 + 1) (0 : Int64)).set (2 * 1) z1).set (2 * 1 + 1) (1 : Int64)).set (2 * 2) z2).set (2 * 2 + 1) (2 : Int64)).set (2 * 3) y3).set (2 * 3 + 1) (3 : Int64)) 3 = y3 := rfl
                            have hm : m = 0 ∨ m = 1 ∨ m = 2 ∨ m = 3 := by omega
                            rcases hm with rfl | rfl | rfl | rfl
                            · rw [show 0 + 1 = 1 from rfl, w1] at hm3; omega
                            · rw [w1] at hm2; rw [show 1 + 1 = 2 from rfl, w2] at hm3; omega
                            · rw [w2] at hm2; rw [show 2 + 1 = 3 from rfl, w3] at hm3; omega
                            · rw [w3] at hm2; omega
                          · skip
                            refine WP.iconst K (1 : Int32) 323 at_322 rfl rfl ?_
                            refine WP.goto K 327 at_323 (by decide) ?_
                            refine WP.iret K rfl (Or.inr (Or.inl rfl)) rfl at_327 ?_ (by decide) (by decide)
                            exact ⟨_, rfl, rfl⟩
                        · skip
                          refine WP.iconst K (3 : Int32) 308 at_307 rfl rfl ?_
                          refine WP.istore K 310 [.val (.long a), .second, .val (.long b), .second, .val (.long cc), .second, .val (.long dd), .second, .val (.long qq), .second, .val (.int kk), .val (.long (min64 a b)), .second, .val (.long (max64 a b)), .second, .val (.long (min64 cc dd)), .second, .val (.long (max64 cc dd)), .second, .val (.long y0), .second, .val (.long (max64 (min64 a b) (min64 cc dd))), .second, .val (.long (min64 (max64 a b) (max64 cc dd))), .second, .val (.long y3), .second, .val (.long z1), .second, .val (.long z2), .second, .val (.ref sa), .val (.int (4 : Int32)), .val (.int md), .val (.long qy), .second, .val (.ref mo), .val (.int (3 : Int32))] at_308 rfl rfl ?_
                          refine WP.aload K 312 at_310 rfl rfl rfl ?_
                          refine WP.lload K 314 at_312 rfl rfl ?_
                          refine WP.callV K (a := mo) (C := "com/example/vestline/vestline/io/Marks") 317 3 134 0 [(.long qy)] [] (hw _ (List.mem_of_getElem? (i := 26) rfl)) (hw _ (List.mem_of_getElem? (i := 27) rfl)) rfl (hw _ (List.mem_of_getElem? (i := 29) rfl)) (hw _ (List.mem_of_getElem? (i := 28) rfl)) (hw _ (List.mem_of_getElem? (i := 10) rfl)) (hw _ (List.mem_of_getElem? (i := 30) rfl)) (by decide) own_pd_2 rfl rfl rfl (by decide) (by decide) (Nat.le_of_eq rfl) rfl at_314 rfl rfl rfl (by decide) (by decide) X_mo (own_last l Z a0 hw n0 h99 mo p qy (((((0 : Int32) + 1) + 1) + 1) + 1) 4 (((((((((List.replicate 128 0).set (2 * 0) y0).set (2 * 0 + 1) (0 : Int64)).set (2 * 1) z1).set (2 * 1 + 1) (1 : Int64)).set (2 * 2) z2).set (2 * 2 + 1) (2 : Int64)).set (2 * 3) y3).set (2 * 3 + 1) (3 : Int64)) Fp Fc A_p rfl (by simp)) (r1_next fun r113 h111 q112 => ?_)
                          obtain ⟨⟨zr, m, rfl, hz, hm1, hm2, hm3⟩, rfl⟩ := q112
                          refine WP.iload K 319 at_317 rfl rfl ?_
                          refine WP.icmp_ne K 326 322 at_319 (by decide) rfl (fun c319 => ?_) (fun c319 => ?_)
                          · skip
                            refine WP.iconst K (0 : Int32) 327 at_326 rfl rfl ?_
                            refine WP.iret K rfl (Or.inr (Or.inl rfl)) rfl at_327 ?_ (by decide) (by decide)
                            exfalso
                            have w1 : own_at (((((((((List.replicate 128 0).set (2 * 0) y0).set (2 * 0 + 1) (0 : Int64)).set (2 * 1) z1).set (2 * 1 + 1) (1 : Int64)).set (2 * 2) z2).set (2 * 2 + 1) (2 : Int64)).set (2 * 3) y3).set (2 * 3 + 1) (3 : Int64)) 1 = z1 := rfl
                            have w2 : own_at (((((((((List.replicate 128 0).set (2 * 0) y0).set (2 * 0 + 1) (0 : Int64)).set (2 * 1) z1).set (2 * 1 + 1) (1 : Int64)).set (2 * 2) z2).set (2 * 2 + 1) (2 : Int64)).set (2 * 3) y3).set (2 * 3 + 1) (3 : Int64)) 2 = z2 := rfl
                            have w3 : own_at (((((((((List.replicate 128 0).set (2 * 0) y0).set (2 * 0 + 1) (0 : Int64)).set (2 * 1) z1).set (2 * 1 + 1) (1 : Int64)).set (2 * 2) z2).set (2 * 2 + 1) (2 : Int64)).set (2 * 3) y3).set (2 * 3 + 1) (3 : Int64)) 3 = y3 := rfl
                            have hm : m = 0 ∨ m = 1 ∨ m = 2 ∨ m = 3 := by omega
                            rcases hm with rfl | rfl | rfl | rfl
                            · rw [show 0 + 1 = 1 from rfl, w1] at hm3; omega
                            · rw [w1] at hm2; rw [show 1 + 1 = 2 from rfl, w2] at hm3; omega
                            · rw [w2] at hm2; rw [show 2 + 1 = 3 from rfl, w3] at hm3; omega
                            · rw [w3] at hm2; omega
                          · skip
                            refine WP.iconst K (1 : Int32) 323 at_322 rfl rfl ?_
                            refine WP.goto K 327 at_323 (by decide) ?_
                            refine WP.iret K rfl (Or.inr (Or.inl rfl)) rfl at_327 ?_ (by decide) (by decide)
                            exact ⟨_, rfl, rfl⟩
                · skip
                  refine WP.iconst K (1 : Int32) 270 at_269 rfl rfl ?_
                  refine WP.istore K 272 [.val (.long a), .second, .val (.long b), .second, .val (.long cc), .second, .val (.long dd), .second, .val (.long qq), .second, .val (.int kk), .val (.long (min64 a b)), .second, .val (.long (max64 a b)), .second, .val (.long (min64 cc dd)), .second, .val (.long (max64 cc dd)), .second, .val (.long y0), .second, .val (.long (max64 (min64 a b) (min64 cc dd))), .second, .val (.long (min64 (max64 a b) (max64 cc dd))), .second, .val (.long y3), .second, .val (.long z1), .second, .val (.long z2), .second, .val (.ref sa), .val (.int (4 : Int32)), .val (.int md), .val (.long qy), .second, .val (.ref mo), .val (.int (1 : Int32))] at_270 rfl rfl ?_
                  refine WP.iload K 274 at_272 rfl rfl ?_
                  refine WP.iconst K (2 : Int32) 275 at_274 rfl rfl ?_
                  refine WP.icmp_le K 291 278 at_275 (by decide) rfl (fun c275 => ?_) (fun c275 => ?_)
                  · skip
                    exact absurd c275 (by decide)
                  · skip
                    refine WP.aload K 280 at_278 rfl rfl rfl ?_
                    refine WP.iconst K (2 : Int32) 281 at_280 rfl rfl ?_
                    refine WP.laload K 282 2 A_sa rfl rfl at_281 rfl ?_
                    refine WP.lload K 284 at_282 rfl rfl ?_
                    refine WP.lcmp K 285 at_284 rfl ?_
                    refine WP.ifl_gt K 291 288 at_285 (by decide) rfl (fun c285 => ?_) (fun c285 => ?_)
                    · skip
                      refine WP.iload K 293 at_291 rfl rfl ?_
                      refine WP.iconst K (3 : Int32) 294 at_293 rfl rfl ?_
                      refine WP.icmp_le K 310 297 at_294 (by decide) rfl (fun c294 => ?_) (fun c294 => ?_)
                      · skip
                        exact absurd c294 (by decide)
                      · skip
                        refine WP.aload K 299 at_297 rfl rfl rfl ?_
                        refine WP.iconst K (3 : Int32) 300 at_299 rfl rfl ?_
                        refine WP.laload K 301 3 A_sa rfl rfl at_300 rfl ?_
                        refine WP.lload K 303 at_301 rfl rfl ?_
                        refine WP.lcmp K 304 at_303 rfl ?_
                        refine WP.ifl_gt K 310 307 at_304 (by decide) rfl (fun c304 => ?_) (fun c304 => ?_)
                        · skip
                          refine WP.aload K 312 at_310 rfl rfl rfl ?_
                          refine WP.lload K 314 at_312 rfl rfl ?_
                          refine WP.callV K (a := mo) (C := "com/example/vestline/vestline/io/Marks") 317 3 134 0 [(.long qy)] [] (hw _ (List.mem_of_getElem? (i := 26) rfl)) (hw _ (List.mem_of_getElem? (i := 27) rfl)) rfl (hw _ (List.mem_of_getElem? (i := 29) rfl)) (hw _ (List.mem_of_getElem? (i := 28) rfl)) (hw _ (List.mem_of_getElem? (i := 10) rfl)) (hw _ (List.mem_of_getElem? (i := 30) rfl)) (by decide) own_pd_2 rfl rfl rfl (by decide) (by decide) (Nat.le_of_eq rfl) rfl at_314 rfl rfl rfl (by decide) (by decide) X_mo (own_last l Z a0 hw n0 h99 mo p qy (((((0 : Int32) + 1) + 1) + 1) + 1) 4 (((((((((List.replicate 128 0).set (2 * 0) y0).set (2 * 0 + 1) (0 : Int64)).set (2 * 1) z1).set (2 * 1 + 1) (1 : Int64)).set (2 * 2) z2).set (2 * 2 + 1) (2 : Int64)).set (2 * 3) y3).set (2 * 3 + 1) (3 : Int64)) Fp Fc A_p rfl (by simp)) (r1_next fun r116 h114 q115 => ?_)
                          obtain ⟨⟨zr, m, rfl, hz, hm1, hm2, hm3⟩, rfl⟩ := q115
                          refine WP.iload K 319 at_317 rfl rfl ?_
                          refine WP.icmp_ne K 326 322 at_319 (by decide) rfl (fun c319 => ?_) (fun c319 => ?_)
                          · skip
                            refine WP.iconst K (0 : Int32) 327 at_326 rfl rfl ?_
                            refine WP.iret K rfl (Or.inr (Or.inl rfl)) rfl at_327 ?_ (by decide) (by decide)
                            exfalso
                            have w1 : own_at (((((((((List.replicate 128 0).set (2 * 0) y0).set (2 * 0 + 1) (0 : Int64)).set (2 * 1) z1).set (2 * 1 + 1) (1 : Int64)).set (2 * 2) z2).set (2 * 2 + 1) (2 : Int64)).set (2 * 3) y3).set (2 * 3 + 1) (3 : Int64)) 1 = z1 := rfl
                            have w2 : own_at (((((((((List.replicate 128 0).set (2 * 0) y0).set (2 * 0 + 1) (0 : Int64)).set (2 * 1) z1).set (2 * 1 + 1) (1 : Int64)).set (2 * 2) z2).set (2 * 2 + 1) (2 : Int64)).set (2 * 3) y3).set (2 * 3 + 1) (3 : Int64)) 2 = z2 := rfl
                            have w3 : own_at (((((((((List.replicate 128 0).set (2 * 0) y0).set (2 * 0 + 1) (0 : Int64)).set (2 * 1) z1).set (2 * 1 + 1) (1 : Int64)).set (2 * 2) z2).set (2 * 2 + 1) (2 : Int64)).set (2 * 3) y3).set (2 * 3 + 1) (3 : Int64)) 3 = y3 := rfl
                            have hm : m = 0 ∨ m = 1 ∨ m = 2 ∨ m = 3 := by omega
                            rcases hm with rfl | rfl | rfl | rfl
                            · rw [show 0 + 1 = 1 from rfl, w1] at hm3; omega
                            · rw [w1] at hm2; rw [show 1 + 1 = 2 from rfl, w2] at hm3; omega
                            · rw [w2] at hm2; rw [show 2 + 1 = 3 from rfl, w3] at hm3; omega
                            · rw [w3] at hm2; omega
                          · skip
                            refine WP.iconst K (1 : Int32) 323 at_322 rfl rfl ?_
                            refine WP.goto K 327 at_323 (by decide) ?_
                            refine WP.iret K rfl (Or.inr (Or.inl rfl)) rfl at_327 ?_ (by decide) (by decide)
                            exact ⟨_, rfl, rfl⟩
                        · skip
                          refine WP.iconst K (3 : Int32) 308 at_307 rfl rfl ?_
                          refine WP.istore K 310 [.val (.long a), .second, .val (.long b), .second, .val (.long cc), .second, .val (.long dd), .second, .val (.long qq), .second, .val (.int kk), .val (.long (min64 a b)), .second, .val (.long (max64 a b)), .second, .val (.long (min64 cc dd)), .second, .val (.long (max64 cc dd)), .second, .val (.long y0), .second, .val (.long (max64 (min64 a b) (min64 cc dd))), .second, .val (.long (min64 (max64 a b) (max64 cc dd))), .second, .val (.long y3), .second, .val (.long z1), .second, .val (.long z2), .second, .val (.ref sa), .val (.int (4 : Int32)), .val (.int md), .val (.long qy), .second, .val (.ref mo), .val (.int (3 : Int32))] at_308 rfl rfl ?_
                          refine WP.aload K 312 at_310 rfl rfl rfl ?_
                          refine WP.lload K 314 at_312 rfl rfl ?_
                          refine WP.callV K (a := mo) (C := "com/example/vestline/vestline/io/Marks") 317 3 134 0 [(.long qy)] [] (hw _ (List.mem_of_getElem? (i := 26) rfl)) (hw _ (List.mem_of_getElem? (i := 27) rfl)) rfl (hw _ (List.mem_of_getElem? (i := 29) rfl)) (hw _ (List.mem_of_getElem? (i := 28) rfl)) (hw _ (List.mem_of_getElem? (i := 10) rfl)) (hw _ (List.mem_of_getElem? (i := 30) rfl)) (by decide) own_pd_2 rfl rfl rfl (by decide) (by decide) (Nat.le_of_eq rfl) rfl at_314 rfl rfl rfl (by decide) (by decide) X_mo (own_last l Z a0 hw n0 h99 mo p qy (((((0 : Int32) + 1) + 1) + 1) + 1) 4 (((((((((List.replicate 128 0).set (2 * 0) y0).set (2 * 0 + 1) (0 : Int64)).set (2 * 1) z1).set (2 * 1 + 1) (1 : Int64)).set (2 * 2) z2).set (2 * 2 + 1) (2 : Int64)).set (2 * 3) y3).set (2 * 3 + 1) (3 : Int64)) Fp Fc A_p rfl (by simp)) (r1_next fun r119 h117 q118 => ?_)
                          obtain ⟨⟨zr, m, rfl, hz, hm1, hm2, hm3⟩, rfl⟩ := q118
                          refine WP.iload K 319 at_317 rfl rfl ?_
                          refine WP.icmp_ne K 326 322 at_319 (by decide) rfl (fun c319 => ?_) (fun c319 => ?_)
                          · skip
                            refine WP.iconst K (0 : Int32) 327 at_326 rfl rfl ?_
                            refine WP.iret K rfl (Or.inr (Or.inl rfl)) rfl at_327 ?_ (by decide) (by decide)
                            exfalso
                            have w1 : own_at (((((((((List.replicate 128 0).set (2 * 0) y0).set (2 * 0 + 1) (0 : Int64)).set (2 * 1) z1).set (2 * 1 + 1) (1 : Int64)).set (2 * 2) z2).set (2 * 2 + 1) (2 : Int64)).set (2 * 3) y3).set (2 * 3 + 1) (3 : Int64)) 1 = z1 := rfl
                            have w2 : own_at (((((((((List.replicate 128 0).set (2 * 0) y0).set (2 * 0 + 1) (0 : Int64)).set (2 * 1) z1).set (2 * 1 + 1) (1 : Int64)).set (2 * 2) z2).set (2 * 2 + 1) (2 : Int64)).set (2 * 3) y3).set (2 * 3 + 1) (3 : Int64)) 2 = z2 := rfl
                            have w3 : own_at (((((((((List.replicate 128 0).set (2 * 0) y0).set (2 * 0 + 1) (0 : Int64)).set (2 * 1) z1).set (2 * 1 + 1) (1 : Int64)).set (2 * 2) z2).set (2 * 2 + 1) (2 : Int64)).set (2 * 3) y3).set (2 * 3 + 1) (3 : Int64)) 3 = y3 := rfl
                            have hm : m = 0 ∨ m = 1 ∨ m = 2 ∨ m = 3 := by omega
                            rcases hm with rfl | rfl | rfl | rfl
                            · rw [show 0 + 1 = 1 from rfl, w1] at hm3; omega
                            · rw [w1] at hm2; rw [show 1 + 1 = 2 from rfl, w2] at hm3; omega
                            · rw [w2] at hm2; rw [show 2 + 1 = 3 from rfl, w3] at hm3; omega
                            · rw [w3] at hm2; omega
                          · skip
                            refine WP.iconst K (1 : Int32) 323 at_322 rfl rfl ?_
                            refine WP.goto K 327 at_323 (by decide) ?_
                            refine WP.iret K rfl (Or.inr (Or.inl rfl)) rfl at_327 ?_ (by decide) (by decide)
                            exact ⟨_, rfl, rfl⟩
                    · skip
                      refine WP.iconst K (2 : Int32) 289 at_288 rfl rfl ?_
                      refine WP.istore K 291 [.val (.long a), .second, .val (.long b), .second, .val (.long cc), .second, .val (.long dd), .second, .val (.long qq), .second, .val (.int kk), .val (.long (min64 a b)), .second, .val (.long (max64 a b)), .second, .val (.long (min64 cc dd)), .second, .val (.long (max64 cc dd)), .second, .val (.long y0), .second, .val (.long (max64 (min64 a b) (min64 cc dd))), .second, .val (.long (min64 (max64 a b) (max64 cc dd))), .second, .val (.long y3), .second, .val (.long z1), .second, .val (.long z2), .second, .val (.ref sa), .val (.int (4 : Int32)), .val (.int md), .val (.long qy), .second, .val (.ref mo), .val (.int (2 : Int32))] at_289 rfl rfl ?_
                      refine WP.iload K 293 at_291 rfl rfl ?_
                      refine WP.iconst K (3 : Int32) 294 at_293 rfl rfl ?_
                      refine WP.icmp_le K 310 297 at_294 (by decide) rfl (fun c294 => ?_) (fun c294 => ?_)
                      · skip
                        exact absurd c294 (by decide)
                      · skip
                        refine WP.aload K 299 at_297 rfl rfl rfl ?_
                        refine WP.iconst K (3 : Int32) 300 at_299 rfl rfl ?_
                        refine WP.laload K 301 3 A_sa rfl rfl at_300 rfl ?_
                        refine WP.lload K 303 at_301 rfl rfl ?_
                        refine WP.lcmp K 304 at_303 rfl ?_
                        refine WP.ifl_gt K 310 307 at_304 (by decide) rfl (fun c304 => ?_) (fun c304 => ?_)
                        · skip
                          refine WP.aload K 312 at_310 rfl rfl rfl ?_
                          refine WP.lload K 314 at_312 rfl rfl ?_
                          refine WP.callV K (a := mo) (C := "com/example/vestline/vestline/io/Marks") 317 3 134 0 [(.long qy)] [] (hw _ (List.mem_of_getElem? (i := 26) rfl)) (hw _ (List.mem_of_getElem? (i := 27) rfl)) rfl (hw _ (List.mem_of_getElem? (i := 29) rfl)) (hw _ (List.mem_of_getElem? (i := 28) rfl)) (hw _ (List.mem_of_getElem? (i := 10) rfl)) (hw _ (List.mem_of_getElem? (i := 30) rfl)) (by decide) own_pd_2 rfl rfl rfl (by decide) (by decide) (Nat.le_of_eq rfl) rfl at_314 rfl rfl rfl (by decide) (by decide) X_mo (own_last l Z a0 hw n0 h99 mo p qy (((((0 : Int32) + 1) + 1) + 1) + 1) 4 (((((((((List.replicate 128 0).set (2 * 0) y0).set (2 * 0 + 1) (0 : Int64)).set (2 * 1) z1).set (2 * 1 + 1) (1 : Int64)).set (2 * 2) z2).set (2 * 2 + 1) (2 : Int64)).set (2 * 3) y3).set (2 * 3 + 1) (3 : Int64)) Fp Fc A_p rfl (by simp)) (r1_next fun r122 h120 q121 => ?_)
                          obtain ⟨⟨zr, m, rfl, hz, hm1, hm2, hm3⟩, rfl⟩ := q121
                          refine WP.iload K 319 at_317 rfl rfl ?_
                          refine WP.icmp_ne K 326 322 at_319 (by decide) rfl (fun c319 => ?_) (fun c319 => ?_)
                          · skip
                            refine WP.iconst K (0 : Int32) 327 at_326 rfl rfl ?_
                            refine WP.iret K rfl (Or.inr (Or.inl rfl)) rfl at_327 ?_ (by decide) (by decide)
                            exfalso
                            have w1 : own_at (((((((((List.replicate 128 0).set (2 * 0) y0).set (2 * 0 + 1) (0 : Int64)).set (2 * 1) z1).set (2 * 1 + 1) (1 : Int64)).set (2 * 2) z2).set (2 * 2 + 1) (2 : Int64)).set (2 * 3) y3).set (2 * 3 + 1) (3 : Int64)) 1 = z1 := rfl
                            have w2 : own_at (((((((((List.replicate 128 0).set (2 * 0) y0).set (2 * 0 + 1) (0 : Int64)).set (2 * 1) z1).set (2 * 1 + 1) (1 : Int64)).set (2 * 2) z2).set (2 * 2 + 1) (2 : Int64)).set (2 * 3) y3).set (2 * 3 + 1) (3 : Int64)) 2 = z2 := rfl
                            have w3 : own_at (((((((((List.replicate 128 0).set (2 * 0) y0).set (2 * 0 + 1) (0 : Int64)).set (2 * 1) z1).set (2 * 1 + 1) (1 : Int64)).set (2 * 2) z2).set (2 * 2 + 1) (2 : Int64)).set (2 * 3) y3).set (2 * 3 + 1) (3 : Int64)) 3 = y3 := rfl
                            have hm : m = 0 ∨ m = 1 ∨ m = 2 ∨ m = 3 := by omega
                            rcases hm with rfl | rfl | rfl | rfl
                            · rw [show 0 + 1 = 1 from rfl, w1] at hm3; omega
                            · rw [w1] at hm2; rw [show 1 + 1 = 2 from rfl, w2] at hm3; omega
                            · rw [w2] at hm2; rw [show 2 + 1 = 3 from rfl, w3] at hm3; omega
                            · rw [w3] at hm2; omega
                          · skip
                            refine WP.iconst K (1 : Int32) 323 at_322 rfl rfl ?_
                            refine WP.goto K 327 at_323 (by decide) ?_
                            refine WP.iret K rfl (Or.inr (Or.inl rfl)) rfl at_327 ?_ (by decide) (by decide)
                            exact ⟨_, rfl, rfl⟩
                        · skip
                          refine WP.iconst K (3 : Int32) 308 at_307 rfl rfl ?_
                          refine WP.istore K 310 [.val (.long a), .second, .val (.long b), .second, .val (.long cc), .second, .val (.long dd), .second, .val (.long qq), .second, .val (.int kk), .val (.long (min64 a b)), .second, .val (.long (max64 a b)), .second, .val (.long (min64 cc dd)), .second, .val (.long (max64 cc dd)), .second, .val (.long y0), .second, .val (.long (max64 (min64 a b) (min64 cc dd))), .second, .val (.long (min64 (max64 a b) (max64 cc dd))), .second, .val (.long y3), .second, .val (.long z1), .second, .val (.long z2), .second, .val (.ref sa), .val (.int (4 : Int32)), .val (.int md), .val (.long qy), .second, .val (.ref mo), .val (.int (3 : Int32))] at_308 rfl rfl ?_
                          refine WP.aload K 312 at_310 rfl rfl rfl ?_
                          refine WP.lload K 314 at_312 rfl rfl ?_
                          refine WP.callV K (a := mo) (C := "com/example/vestline/vestline/io/Marks") 317 3 134 0 [(.long qy)] [] (hw _ (List.mem_of_getElem? (i := 26) rfl)) (hw _ (List.mem_of_getElem? (i := 27) rfl)) rfl (hw _ (List.mem_of_getElem? (i := 29) rfl)) (hw _ (List.mem_of_getElem? (i := 28) rfl)) (hw _ (List.mem_of_getElem? (i := 10) rfl)) (hw _ (List.mem_of_getElem? (i := 30) rfl)) (by decide) own_pd_2 rfl rfl rfl (by decide) (by decide) (Nat.le_of_eq rfl) rfl at_314 rfl rfl rfl (by decide) (by decide) X_mo (own_last l Z a0 hw n0 h99 mo p qy (((((0 : Int32) + 1) + 1) + 1) + 1) 4 (((((((((List.replicate 128 0).set (2 * 0) y0).set (2 * 0 + 1) (0 : Int64)).set (2 * 1) z1).set (2 * 1 + 1) (1 : Int64)).set (2 * 2) z2).set (2 * 2 + 1) (2 : Int64)).set (2 * 3) y3).set (2 * 3 + 1) (3 : Int64)) Fp Fc A_p rfl (by simp)) (r1_next fun r125 h123 q124 => ?_)
                          obtain ⟨⟨zr, m, rfl, hz, hm1, hm2, hm3⟩, rfl⟩ := q124
                          refine WP.iload K 319 at_317 rfl rfl ?_
                          refine WP.icmp_ne K 326 322 at_319 (by decide) rfl (fun c319 => ?_) (fun c319 => ?_)
                          · skip
                            refine WP.iconst K (0 : Int32) 327 at_326 rfl rfl ?_
                            refine WP.iret K rfl (Or.inr (Or.inl rfl)) rfl at_327 ?_ (by decide) (by decide)
                            exfalso
                            have w1 : own_at (((((((((List.replicate 128 0).set (2 * 0) y0).set (2 * 0 + 1) (0 : Int64)).set (2 * 1) z1).set (2 * 1 + 1) (1 : Int64)).set (2 * 2) z2).set (2 * 2 + 1) (2 : Int64)).set (2 * 3) y3).set (2 * 3 + 1) (3 : Int64)) 1 = z1 := rfl
                            have w2 : own_at (((((((((List.replicate 128 0).set (2 * 0) y0).set (2 * 0 + 1) (0 : Int64)).set (2 * 1) z1).set (2 * 1 + 1) (1 : Int64)).set (2 * 2) z2).set (2 * 2 + 1) (2 : Int64)).set (2 * 3) y3).set (2 * 3 + 1) (3 : Int64)) 2 = z2 := rfl
                            have w3 : own_at (((((((((List.replicate 128 0).set (2 * 0) y0).set (2 * 0 + 1) (0 : Int64)).set (2 * 1) z1).set (2 * 1 + 1) (1 : Int64)).set (2 * 2) z2).set (2 * 2 + 1) (2 : Int64)).set (2 * 3) y3).set (2 * 3 + 1) (3 : Int64)) 3 = y3 := rfl
                            have hm : m = 0 ∨ m = 1 ∨ m = 2 ∨ m = 3 := by omega
                            rcases hm with rfl | rfl | rfl | rfl
                            · rw [show 0 + 1 = 1 from rfl, w1] at hm3; omega
                            · rw [w1] at hm2; rw [show 1 + 1 = 2 from rfl, w2] at hm3; omega
                            · rw [w2] at hm2; rw [show 2 + 1 = 3 from rfl, w3] at hm3; omega
                            · rw [w3] at hm2; omega
                          · skip
                            refine WP.iconst K (1 : Int32) 323 at_322 rfl rfl ?_
                            refine WP.goto K 327 at_323 (by decide) ?_
                            refine WP.iret K rfl (Or.inr (Or.inl rfl)) rfl at_327 ?_ (by decide) (by decide)
                            exact ⟨_, rfl, rfl⟩
  obtain ⟨M, hM⟩ : ∃ M : Nat, md.toInt = (M : Nat) := ⟨md.toInt.toNat, by omega⟩
  refine WP.iload K 135 at_133 rfl rfl ?_
  refine WP.iconst K (4 : Int32) 136 at_135 rfl rfl ?_
  refine WP.icmp_ge K 149 139 at_136 (by decide) rfl (fun c136 => ?_) (fun c136 => ?_)
  · skip
    refine WP.iload K 151 at_149 rfl rfl ?_
    refine WP.bipush K (8 : Int32) 153 at_151 rfl rfl ?_
    refine WP.icmp_ge K 170 156 at_153 (by decide) rfl (fun c153 => ?_) (fun c153 => ?_)
    · skip
      refine WP.lload K 172 at_170 rfl rfl ?_
      refine WP.lstore K 174 [.val (.long a), .second, .val (.long b), .second, .val (.long cc), .second, .val (.long dd), .second, .val (.long qq), .second, .val (.int kk), .val (.long (min64 a b)), .second, .val (.long (max64 a b)), .second, .val (.long (min64 cc dd)), .second, .val (.long (max64 cc dd)), .second, .val (.long y0), .second, .val (.long (max64 (min64 a b) (min64 cc dd))), .second, .val (.long (min64 (max64 a b) (max64 cc dd))), .second, .val (.long y3), .second, .val (.long z1), .second, .val (.long z2), .second, .val (.ref sa), .val (.int nn), .val (.int md), .val (.long qq), .second, .unset, .unset] at_172 rfl rfl ?_
      exact J174 _
    · skip
      obtain ⟨v, hv⟩ : ∃ v, [y0, z1, z2, y3][M - 4]? = some v := ⟨_, List.getElem?_eq_getElem (by simp; omega)⟩
      refine WP.aload K 158 at_156 rfl rfl rfl ?_
      refine WP.iload K 160 at_158 rfl rfl ?_
      refine WP.iconst K (4 : Int32) 161 at_160 rfl rfl ?_
      refine WP.isub K 162 at_161 rfl ?_
      refine WP.laload K 163 (M - 4) A_sa (by rw [i32_sub (by omega) (by omega)]; omega) hv at_162 rfl ?_
      refine WP.lconst K (1 : Int64) 164 at_163 rfl rfl ?_
      refine WP.lsub K 165 at_164 rfl ?_
      refine WP.lstore K 167 [.val (.long a), .second, .val (.long b), .second, .val (.long cc), .second, .val (.long dd), .second, .val (.long qq), .second, .val (.int kk), .val (.long (min64 a b)), .second, .val (.long (max64 a b)), .second, .val (.long (min64 cc dd)), .second, .val (.long (max64 cc dd)), .second, .val (.long y0), .second, .val (.long (max64 (min64 a b) (min64 cc dd))), .second, .val (.long (min64 (max64 a b) (max64 cc dd))), .second, .val (.long y3), .second, .val (.long z1), .second, .val (.long z2), .second, .val (.ref sa), .val (.int nn), .val (.int md), .val (.long (v - (1 : Int64))), .second, .unset, .unset] at_165 rfl rfl ?_
      refine WP.goto K 174 at_167 (by decide) ?_
      exact J174 _
  · skip
    obtain ⟨v, hv⟩ : ∃ v, [y0, z1, z2, y3][M]? = some v := ⟨_, List.getElem?_eq_getElem (by simp; omega)⟩
    refine WP.aload K 141 at_139 rfl rfl rfl ?_
    refine WP.iload K 143 at_141 rfl rfl ?_
    refine WP.laload K 144 M A_sa hM hv at_143 rfl ?_
    refine WP.lstore K 146 [.val (.long a), .second, .val (.long b), .second, .val (.long cc), .second, .val (.long dd), .second, .val (.long qq), .second, .val (.int kk), .val (.long (min64 a b)), .second, .val (.long (max64 a b)), .second, .val (.long (min64 cc dd)), .second, .val (.long (max64 cc dd)), .second, .val (.long y0), .second, .val (.long (max64 (min64 a b) (min64 cc dd))), .second, .val (.long (min64 (max64 a b) (max64 cc dd))), .second, .val (.long y3), .second, .val (.long z1), .second, .val (.long z2), .second, .val (.ref sa), .val (.int nn), .val (.int md), .val (.long v), .second, .unset, .unset] at_144 rfl rfl ?_
    refine WP.goto K 174 at_146 (by decide) ?_
    exact J174 _
set_option maxRecDepth 65536 in
set_option maxHeartbeats 40000000 in
theorem comes_1 {Post : Tables → Env → Array Value → State → Outcome → State → Prop} (hpost : ∀ tb e args s v u, (limb_1_1.after args s (.returned v) u = true ∧ limb_1_2.after args s (.returned v) u = true ∧ True) → FrameEnd s (.returned v) u (Jvm.fieldLocs frame_1_writes args s ++ Jvm.arrayLocs frame_1_arrays args s ++ Jvm.staticLocs frame_1_statics s) 16 384 → Post tb e args s (.returned v) u) :
    ArmFor flags0 classFile x code maxLocals ret World_1 tables_1 room_1 Calls_1 rest_1 Pre_1 Post := by
  intro l hfl _ _ p e ha hc hk s m args below hf hA hF happ hP
  obtain ⟨hcalls, hrest, hpre⟩ := hP
  obtain ⟨-, -, -, hnamed, -, -, -, hat⟩ := (Spec.applies_iff hf).mp happ
  obtain ⟨hg, hn⟩ := and_e (Cond.before_iff.mp (show (Jvm.Cond.and given_1 narrow_1).before args s = true from hpre))
  obtain ⟨g0, g1⟩ := and_e hg
  obtain ⟨w0, w1, w2, w3, w4, w5, rfl⟩ : ∃ w0 w1 w2 w3 w4 w5 : Value, args = #[w0, w1, w2, w3, w4, w5] := by
    have hs : args.size = 6 := by simpa [Cond.value, given_1] using g0
    obtain ⟨L⟩ := args
    match L, hs with
    | [w0, w1, w2, w3, w4, w5], _ => exact ⟨w0, w1, w2, w3, w4, w5, rfl⟩
  have hw := fun d (hd : d ∈ tables_1) => atoms_spec (ws := Jvm.Cond.code x code maxLocals ret :: tables_1) hat d (List.mem_cons_of_mem _ hd)
  have hfit : Fit s := fun {y c} hc i hi => by
    obtain ⟨ha, rfl⟩ := Array.getElem?_eq_some_iff.mp hc
    have q := List.all_eq_true.mp ((Array.all_eq_true_iff_forall_mem.mp hF) _ (Array.getElem_mem ha)) i (List.mem_range.mpr hi)
    simpa [Array.getElem?_eq_getElem hi] using q
  obtain ⟨u0, g2⟩ := and_e g1
  obtain ⟨i0, ei0⟩ := isL_v u0
  obtain rfl : w0 = (.long i0) := Option.some.inj ei0
  obtain ⟨u1, g3⟩ := and_e g2
  obtain ⟨i1, ei1⟩ := isL_v u1
  obtain rfl : w1 = (.long i1) := Option.some.inj ei1
  obtain ⟨u2, g4⟩ := and_e g3
  obtain ⟨i2, ei2⟩ := isL_v u2
  obtain rfl : w2 = (.long i2) := Option.some.inj ei2
  obtain ⟨u3, g5⟩ := and_e g4
  obtain ⟨i3, ei3⟩ := isL_v u3
  obtain rfl : w3 = (.long i3) := Option.some.inj ei3
  obtain ⟨u4, g6⟩ := and_e g5
  obtain ⟨i4, ei4⟩ := isL_v u4
  obtain rfl : w4 = (.long i4) := Option.some.inj ei4
  obtain ⟨i5, ei5⟩ := is_v g6
  obtain rfl : w5 = (.int i5) := Option.some.inj ei5
  obtain ⟨n, o, h1, h2, h3, _, L, rfl, ⟨⟨_, rfl, rfl⟩, N⟩, hq⟩ := own_law l s _ hw s.heap.size s.heap i0 i1 i2 i3 i4 i5 (Nat.le_refl _) tables_1 p e ha hc hk s m _ below hf ((Spec.applies_iff_loose hf).mp happ).1 ⟨rfl, State.Warmed39.refl s, rfl⟩ trivial
  refine ⟨n, _, h1, h2, h3, hpost _ _ _ _ _ _ ⟨Cond.after_iff.mpr rfl, Cond.after_iff.mpr (eq_i res_at (Term.int_eval (1)) rfl), trivial⟩ ⟨hq.1, hq.2.1, (hq.2.2.sift fun y hy => Or.inr (N y hy)).mono (by decide) (by decide)⟩⟩
theorem main_1_1 : Claimed_1_1 := comes_1 fun _ _ _ _ _ _ h hF => ⟨h.1, hF⟩
theorem main_1_2 : Claimed_1_2 := comes_1 fun _ _ _ _ _ _ h hF => ⟨h.2.1, hF⟩
end Jvm.Pilot.@@N@@
namespace Jvm.Pilot.@@N@@
open Jvm Jvm.ClassFile Sem Op Lib Jvm.Free Jvm.Stand Jvm.Pilot.@@N@@.Jvm.D
/-! MADE BY PROGRAM (witnessworld.py) out of the Statement's table words and the real class files: 12 classes; the members and pool entries that the words name. The judged class is class 1, her method 1. -/
namespace start1
open Jvm.ClassFile
def u (s : String) : CpInfo := .utf8 (stringToUtf16 s)
/-- a pool by its gaps: so many unusable entries, then the entry; so many at the end -/
def gap : Nat → List CpInfo → List CpInfo
  | 0, r => r
  | n + 1, r => .unusable :: gap n r
def poolList (es : List (Nat × CpInfo)) (last : Nat) : List CpInfo := es.foldr (fun e r => gap e.1 (e.2 :: r)) (gap last [])
def pool (es : List (Nat × CpInfo)) (last : Nat) : Array CpInfo := ⟨poolList es last⟩
def fileOf (pool : Array CpInfo) (this : Nat) (attrs : Array Attribute := #[]) (ms : Array MethodInfo := #[]) (fl : Nat := 33) (sup : Nat := 0) (ifs : Array Nat := #[]) (fds : Array FieldInfo := #[]) : ClassFile where
  minorVersion := 0
  majorVersion := 65
  constantPool := pool
  accessFlags := fl
  thisClass := this
  superClass := sup
  interfaces := ifs
  fields := fds
  methods := ms
  attributes := attrs
def plain (name : String) (sup : Option ClassId) : Class where
  name := name
  kind := .ordinary
  loader := none
  accessFlags := 33
  super := sup
  interfaces := #[]
  cf := none
  fields := #[]
  methods := #[]
  instanceTypes := #[]
  staticTypes := #[]
  resolved := #[]
  callSites := []
  init := .initialized
  statics := none
  mirror := none

def pool0 : Array CpInfo := pool [(5, u "<init>"), (0, u "()V"), (1, .class_ 10), (1, u "java/lang/Object")] 113

def k0c0 : Code := { maxStack := 0, maxLocals := 1, code := object_method_1_code, exceptionTable := #[], attributes := #[] }
def k0m0 : Method := { name := "<init>", desc := "()V", sig := { parameters := [], returnType := none }, accessFlags := 1, code := some k0c0 }
/-- java/lang/Object -/
def k0 : Class := { plain "java/lang/Object" none with
  accessFlags := 33
  interfaces := #[]
  cf := some (fileOf pool0 8 #[] #[{ accessFlags := 1, nameIndex := 5, descriptorIndex := 6, attributes := #[] }] 33 0 #[] #[])
  fields := #[]
  methods := #[k0m0]
  instanceTypes := #[]
  staticTypes := #[]
  resolved := Array.replicate 124 none
  statics := none }

def pool1 : Array CpInfo := pool [(2, .class_ 4), (0, .nameAndType 5 6), (0, u "java/lang/Object"), (0, u "<init>"), (0, u "()V"), (0, .methodref 8 9), (0, .class_ 10), (0, .nameAndType 11 12), (0, u "java/lang/Math"), (0, u "min"), (0, u "(JJ)J"), (0, .methodref 8 14), (0, .nameAndType 15 12), (0, u "max"), (0, .class_ 17), (0, u "com/example/vestline/vestline/io/Marks"), (0, .methodref 16 3), (0, .methodref 16 20), (0, .nameAndType 21 22), (0, u "note"), (0, u "(JJ)V"), (0, .long 2), (1, .long 3), (1, .methodref 16 28), (0, .nameAndType 29 30), (0, u "lastAtOrBefore"), (0, u "(J)I"), (0, .class_ 32), (0, u "com/example/vestline/vestline/io/MarksLastAtOrBeforePinLaw"), (2, u "law"), (0, u "(JJJJJI)Z")] 5

def k1m0 : Method := { name := "<init>", desc := "()V", sig := { parameters := [], returnType := none }, accessFlags := 1, code := none }
def k1c1 : Code := { maxStack := 5, maxLocals := 38, code := code, exceptionTable := #[], attributes := #[] }
def k1m1 : Method := { name := "law", desc := "(JJJJJI)Z", sig := { parameters := [.long, .long, .long, .long, .long, .int], returnType := some .boolean }, accessFlags := 9, code := some k1c1 }
/-- com/example/vestline/vestline/io/MarksLastAtOrBeforePinLaw -/
def k1 : Class := { plain "com/example/vestline/vestline/io/MarksLastAtOrBeforePinLaw" (some 0) with
  accessFlags := 49
  interfaces := #[]
  cf := some (fileOf pool1 31 #[] #[{ accessFlags := 1, nameIndex := 5, descriptorIndex := 6, attributes := #[] }, { accessFlags := 9, nameIndex := 35, descriptorIndex := 36, attributes := #[] }] 49 2 #[] #[])
  fields := #[]
  methods := #[k1m0, k1m1]
  instanceTypes := #[]
  staticTypes := #[]
  resolved := Array.replicate 42 none
  statics := none }

def pool2 : Array CpInfo := pool [(1, .class_ 2), (0, u "java/lang/Math"), (1, .class_ 6), (1, u "java/lang/Object"), (0, u "<init>"), (0, u "()V"), (89, .class_ 100), (1, u "java/lang/Math$RandomNumberGeneratorHolder"), (20, u "(JJ)J"), (50, u "negativeZeroFloatBits"), (0, u "J"), (2, u "negativeZeroDoubleBits"), (21, u "max"), (2, u "min"), (43, u "$assertionsDisabled"), (0, u "Z"), (91, u "twoToTheDoubleScaleDown"), (0, u "D"), (4, u "twoToTheDoubleScaleUp"), (9, u "E"), (3, u "PI"), (2, u "TAU"), (2, u "DEGREES_TO_RADIANS"), (0, u "RADIANS_TO_DEGREES")] 94

def k2m0 : Method := { name := "<init>", desc := "()V", sig := { parameters := [], returnType := none }, accessFlags := 2, code := none }
def k2c1 : Code := { maxStack := 4, maxLocals := 4, code := jdk_29_method_66_code, exceptionTable := #[], attributes := #[] }
def k2m1 : Method := { name := "max", desc := "(JJ)J", sig := { parameters := [.long, .long], returnType := some .long }, accessFlags := 9, code := some k2c1 }
def k2c2 : Code := { maxStack := 4, maxLocals := 4, code := jdk_29_method_70_code, exceptionTable := #[], attributes := #[] }
def k2m2 : Method := { name := "min", desc := "(JJ)J", sig := { parameters := [.long, .long], returnType := some .long }, accessFlags := 9, code := some k2c2 }
/-- java/lang/Math -/
def k2 : Class := { plain "java/lang/Math" (some 0) with
  accessFlags := 49
  interfaces := #[]
  cf := some (fileOf pool2 1 #[.nestMembers #[98]] #[{ accessFlags := 2, nameIndex := 7, descriptorIndex := 8, attributes := #[] }, { accessFlags := 9, nameIndex := 198, descriptorIndex := 121, attributes := #[] }, { accessFlags := 9, nameIndex := 201, descriptorIndex := 121, attributes := #[] }] 49 4 #[] #[{ accessFlags := 25, nameIndex := 354, descriptorIndex := 339, attributes := #[] }, { accessFlags := 25, nameIndex := 358, descriptorIndex := 339, attributes := #[] }, { accessFlags := 25, nameIndex := 361, descriptorIndex := 339, attributes := #[] }, { accessFlags := 26, nameIndex := 364, descriptorIndex := 339, attributes := #[] }, { accessFlags := 26, nameIndex := 365, descriptorIndex := 339, attributes := #[] }, { accessFlags := 26, nameIndex := 172, descriptorIndex := 173, attributes := #[] }, { accessFlags := 26, nameIndex := 176, descriptorIndex := 173, attributes := #[] }, { accessFlags := 8, nameIndex := 344, descriptorIndex := 339, attributes := #[] }, { accessFlags := 8, nameIndex := 338, descriptorIndex := 339, attributes := #[] }, { accessFlags := 4120, nameIndex := 245, descriptorIndex := 246, attributes := #[] }])
  fields := #[{ name := "E", type := .double, accessFlags := 25, slot := 0, constantValue := 0 }, { name := "PI", type := .double, accessFlags := 25, slot := 1, constantValue := 0 }, { name := "TAU", type := .double, accessFlags := 25, slot := 2, constantValue := 0 }, { name := "DEGREES_TO_RADIANS", type := .double, accessFlags := 26, slot := 3, constantValue := 0 }, { name := "RADIANS_TO_DEGREES", type := .double, accessFlags := 26, slot := 4, constantValue := 0 }, { name := "negativeZeroFloatBits", type := .long, accessFlags := 26, slot := 5, constantValue := 0 }, { name := "negativeZeroDoubleBits", type := .long, accessFlags := 26, slot := 6, constantValue := 0 }, { name := "twoToTheDoubleScaleUp", type := .double, accessFlags := 8, slot := 7, constantValue := 0 }, { name := "twoToTheDoubleScaleDown", type := .double, accessFlags := 8, slot := 8, constantValue := 0 }, { name := "$assertionsDisabled", type := .boolean, accessFlags := 4120, slot := 9, constantValue := 0 }]
  methods := #[k2m0, k2m1, k2m2]
  instanceTypes := #[]
  staticTypes := #[.double, .double, .double, .double, .double, .long, .long, .double, .double, .boolean]
  resolved := Array.replicate 460 none
  statics := none }

def pool3 : Array CpInfo := pool [(1, .methodref 2 3), (0, .class_ 4), (0, .nameAndType 5 6), (0, u "java/lang/Object"), (0, u "<init>"), (0, u "()V"), (0, .fieldref 8 9), (0, .class_ 10), (0, .nameAndType 11 12), (0, u "com/example/vestline/vestline/io/Marks"), (0, u "pairs"), (0, u "[J"), (0, .fieldref 8 14), (0, .nameAndType 15 16), (0, u "count"), (0, u "I"), (8, u "note"), (0, u "(JJ)V"), (1, u "lastAtOrBefore"), (0, u "(J)I")] 5

def k3c0 : Code := { maxStack := 2, maxLocals := 1, code := prog_16_method_1_code, exceptionTable := #[], attributes := #[] }
def k3m0 : Method := { name := "<init>", desc := "()V", sig := { parameters := [], returnType := none }, accessFlags := 0, code := some k3c0 }
def k3c1 : Code := { maxStack := 4, maxLocals := 5, code := prog_16_method_2_code, exceptionTable := #[], attributes := #[] }
def k3m1 : Method := { name := "note", desc := "(JJ)V", sig := { parameters := [.long, .long], returnType := none }, accessFlags := 0, code := some k3c1 }
def k3c2 : Code := { maxStack := 4, maxLocals := 6, code := prog_16_method_3_code, exceptionTable := #[], attributes := #[] }
def k3m2 : Method := { name := "lastAtOrBefore", desc := "(J)I", sig := { parameters := [.long], returnType := some .int }, accessFlags := 0, code := some k3c2 }
/-- com/example/vestline/vestline/io/Marks -/
def k3 : Class := { plain "com/example/vestline/vestline/io/Marks" (some 0) with
  accessFlags := 32
  interfaces := #[]
  cf := some (fileOf pool3 8 #[] #[{ accessFlags := 0, nameIndex := 5, descriptorIndex := 6, attributes := #[] }, { accessFlags := 0, nameIndex := 25, descriptorIndex := 26, attributes := #[] }, { accessFlags := 0, nameIndex := 28, descriptorIndex := 29, attributes := #[] }] 32 2 #[] #[{ accessFlags := 2, nameIndex := 11, descriptorIndex := 12, attributes := #[] }, { accessFlags := 2, nameIndex := 15, descriptorIndex := 16, attributes := #[] }])
  fields := #[{ name := "pairs", type := (.array .long), accessFlags := 2, slot := 0, constantValue := 0 }, { name := "count", type := .int, accessFlags := 2, slot := 1, constantValue := 0 }]
  methods := #[k3m0, k3m1, k3m2]
  instanceTypes := #[(.array .long), .int]
  staticTypes := #[]
  resolved := Array.replicate 35 none
  statics := none }

def pool4 : Array CpInfo := pool [(1, u "java/lang/Cloneable"), (0, .class_ 1), (0, u "java/lang/Object"), (0, .class_ 3)] 3

/-- java/lang/Cloneable -/
def k4 : Class := { plain "java/lang/Cloneable" (some 0) with
  accessFlags := 1537
  interfaces := #[]
  cf := some (fileOf pool4 2 #[] #[] 1537 4 #[] #[])
  fields := #[]
  methods := #[]
  instanceTypes := #[]
  staticTypes := #[]
  resolved := Array.replicate 8 none
  statics := none }

def pool5 : Array CpInfo := pool [(1, u "java/io/Serializable"), (0, .class_ 1), (0, u "java/lang/Object"), (0, .class_ 3)] 3

/-- java/io/Serializable -/
def k5 : Class := { plain "java/io/Serializable" (some 0) with
  accessFlags := 1537
  interfaces := #[]
  cf := some (fileOf pool5 2 #[] #[] 1537 4 #[] #[])
  fields := #[]
  methods := #[]
  instanceTypes := #[]
  staticTypes := #[]
  resolved := Array.replicate 8 none
  statics := none }

/-- the primitive byte -/
def k6 : Class := { plain "byte" none with kind := .primitive 'B', accessFlags := 0x411 }
/-- [B -/
def k7 : Class := { plain "[B" (some 0) with kind := .array 6 .byte, interfaces := #[4, 5], accessFlags := 1041 }

/-- the primitive int -/
def k8 : Class := { plain "int" none with kind := .primitive 'I', accessFlags := 0x411 }
/-- [I -/
def k9 : Class := { plain "[I" (some 0) with kind := .array 8 .int, interfaces := #[4, 5], accessFlags := 1041 }

/-- the primitive long -/
def k10 : Class := { plain "long" none with kind := .primitive 'J', accessFlags := 0x411 }
/-- [J -/
def k11 : Class := { plain "[J" (some 0) with kind := .array 10 .long, interfaces := #[4, 5], accessFlags := 1041 }

def heap : Heap := #[]
def classes : Array Class := #[k0, k1, k2, k3, k4, k5, k6, k7, k8, k9, k10, k11]
def interned : List (Array UInt16 × Addr) := []
def slotsUsed : Nat := 0
def theMethod : MethodId := ⟨1, 1⟩
def args0 : Array Value := #[.long 5, .long 7, .long 1, .long 2, .long 3, .int 4]
def aboutOver (below : List Frame) : State where
  vm := { classes := classes, interned := interned.toArray }
  heap := heap
  slotsUsed := slotsUsed
  threads := #[{ frames := .invoking theMethod args0 :: below }]
def below0 : List Frame := [.native { method := ⟨0, 0⟩, args := #[] }]
def about1 : State := aboutOver below0
def p0 : Program := .bare "" "" ""
def e0 : Env := launch0.env 0 0 0
theorem w_frames : about1.frames = Frame.invoking theMethod args0 :: below0 := rfl
set_option maxRecDepth 65536 in
theorem w_args : argsFit about1.vm theMethod args0 = true := by decide +kernel
set_option maxRecDepth 65536 in
theorem w_heap : heapFits about1 = true := by decide +kernel
set_option maxRecDepth 65536 in
theorem w_runnable : about1.curStatus? = some .runnable := by decide +kernel
set_option maxRecDepth 65536 in
theorem w_alone : about1.alone = true := by decide +kernel
set_option maxRecDepth 65536 in
theorem w_named : about1.methodNamed? x = some theMethod := by decide +kernel
set_option maxRecDepth 65536 in
theorem w_hears : about1.hears theMethod below0 = true := by decide +kernel
set_option maxRecDepth 65536 in
theorem w_ripe : about1.ripe theMethod args0 below0 = true := by decide +kernel
theorem w_running : about1.status = .running := rfl
set_option maxRecDepth 65536 in
theorem w_room : about1.hasRoom e0.platform room_1 = true :=
  launch0.hasRoom_least _ room_1 (by decide +kernel) (by decide +kernel) (by decide +kernel) (by decide +kernel) (by decide +kernel) (by decide +kernel)
theorem allAtoms_all (ts : List Jvm.Cond) (a : Array Jvm.Value) (st : Jvm.State) : (allAtoms ts).before a st = ts.all (fun c => c.before a st) := by
  induction ts with
  | nil => rfl
  | cons c t ih =>
    show (Jvm.Cond.and c (allAtoms t)).before a st = _
    rw [Jvm.Cond.before_and, ih, List.all_cons]
def words1 : List Jvm.Cond := Jvm.Cond.code x code maxLocals ret :: tables_1
/-- a 'code' word, met by the world's own term for the bytes: nothing is compared byte by byte -/
theorem code_word {y : MethodName} {bytes : ByteArray} {mx : Nat} {rt : Option FieldType} {a : Array Value} {s : State} {m : MethodId} {meth : Method} {c : Code} (h1 : s.methodNamed? y = some m) (h2 : s.vm.method? m = some meth) (h3 : meth.code = some c) (h4 : c.code = bytes)
    (h5 : (c.maxLocals == mx && c.exceptionTable.isEmpty && decide (c.maxStack ≤ mostOperands) && decide (meth.sig.returnType = rt) && !meth.locks && decide (parseMethodDescriptor y.desc = some meth.sig)) = true) : (Jvm.Cond.code y bytes mx rt).before a s = true := by
  simp only [Bool.and_eq_true, beq_iff_eq, Bool.not_eq_true', decide_eq_true_eq] at h5
  obtain ⟨⟨⟨⟨⟨g1, g2⟩, g3⟩, g4⟩, g5⟩, g6⟩ := h5
  simp [Cond.before, Cond.holds, Cond.value, h1, h2, h3, h4, g1, g2, g3, g4, g5, g6]
def isCode : Jvm.Cond → Bool
  | .code _ _ _ _ => true
  | _ => false
theorem all_split {L : List Jvm.Cond} {P : Jvm.Cond → Bool} (h1 : L.all (fun c => isCode c || P c) = true) (h2 : ∀ c ∈ L.filter isCode, P c = true) : L.all P = true := by
  refine List.all_eq_true.mpr fun c hc => ?_
  have h := List.all_eq_true.mp h1 c hc
  rcases Bool.eq_false_or_eq_true (isCode c) with hi | hi
  · exact h2 c (List.mem_filter.mpr ⟨hc, hi⟩)
  · simpa [hi] using h
set_option maxRecDepth 65536 in
theorem w_c0 : (Jvm.Cond.code x code maxLocals ret).before args0 about1 = true := code_word (m := ⟨1, 1⟩) (meth := k1m1) (c := k1c1) (by decide +kernel) rfl rfl rfl (by decide +kernel)
set_option maxRecDepth 65536 in
theorem w_c1 : (Jvm.Cond.code ({ cls := "java/lang/Math", name := "min", desc := "(JJ)J" } : Jvm.MethodName) jdk_29_method_70_code (4 : Nat) (Option.some Jvm.ClassFile.FieldType.long)).before args0 about1 = true := code_word (m := ⟨2, 2⟩) (meth := k2m2) (c := k2c2) (by decide +kernel) rfl rfl rfl (by decide +kernel)
set_option maxRecDepth 65536 in
theorem w_c2 : (Jvm.Cond.code ({ cls := "java/lang/Math", name := "max", desc := "(JJ)J" } : Jvm.MethodName) jdk_29_method_66_code (4 : Nat) (Option.some Jvm.ClassFile.FieldType.long)).before args0 about1 = true := code_word (m := ⟨2, 1⟩) (meth := k2m1) (c := k2c1) (by decide +kernel) rfl rfl rfl (by decide +kernel)
set_option maxRecDepth 65536 in
theorem w_c3 : (Jvm.Cond.code ({ cls := "com/example/vestline/vestline/io/Marks", name := "<init>", desc := "()V" } : Jvm.MethodName) prog_16_method_1_code (1 : Nat) (Option.none : Option Jvm.ClassFile.FieldType)).before args0 about1 = true := code_word (m := ⟨3, 0⟩) (meth := k3m0) (c := k3c0) (by decide +kernel) rfl rfl rfl (by decide +kernel)
set_option maxRecDepth 65536 in
theorem w_c4 : (Jvm.Cond.code ({ cls := "java/lang/Object", name := "<init>", desc := "()V" } : Jvm.MethodName) object_method_1_code (1 : Nat) (Option.none : Option Jvm.ClassFile.FieldType)).before args0 about1 = true := code_word (m := ⟨0, 0⟩) (meth := k0m0) (c := k0c0) (by decide +kernel) rfl rfl rfl (by decide +kernel)
set_option maxRecDepth 65536 in
theorem w_c5 : (Jvm.Cond.code ({ cls := "com/example/vestline/vestline/io/Marks", name := "note", desc := "(JJ)V" } : Jvm.MethodName) prog_16_method_2_code (5 : Nat) (Option.none : Option Jvm.ClassFile.FieldType)).before args0 about1 = true := code_word (m := ⟨3, 1⟩) (meth := k3m1) (c := k3c1) (by decide +kernel) rfl rfl rfl (by decide +kernel)
set_option maxRecDepth 65536 in
theorem w_c6 : (Jvm.Cond.code ({ cls := "com/example/vestline/vestline/io/Marks", name := "lastAtOrBefore", desc := "(J)I" } : Jvm.MethodName) prog_16_method_3_code (6 : Nat) (Option.some Jvm.ClassFile.FieldType.int)).before args0 about1 = true := code_word (m := ⟨3, 2⟩) (meth := k3m2) (c := k3c2) (by decide +kernel) rfl rfl rfl (by decide +kernel)
def codes1 : List Jvm.Cond := [Jvm.Cond.code x code maxLocals ret, Jvm.Cond.code ({ cls := "java/lang/Math", name := "min", desc := "(JJ)J" } : Jvm.MethodName) jdk_29_method_70_code (4 : Nat) (Option.some Jvm.ClassFile.FieldType.long), Jvm.Cond.code ({ cls := "java/lang/Math", name := "max", desc := "(JJ)J" } : Jvm.MethodName) jdk_29_method_66_code (4 : Nat) (Option.some Jvm.ClassFile.FieldType.long), Jvm.Cond.code ({ cls := "com/example/vestline/vestline/io/Marks", name := "<init>", desc := "()V" } : Jvm.MethodName) prog_16_method_1_code (1 : Nat) (Option.none : Option Jvm.ClassFile.FieldType), Jvm.Cond.code ({ cls := "java/lang/Object", name := "<init>", desc := "()V" } : Jvm.MethodName) object_method_1_code (1 : Nat) (Option.none : Option Jvm.ClassFile.FieldType), Jvm.Cond.code ({ cls := "com/example/vestline/vestline/io/Marks", name := "note", desc := "(JJ)V" } : Jvm.MethodName) prog_16_method_2_code (5 : Nat) (Option.none : Option Jvm.ClassFile.FieldType), Jvm.Cond.code ({ cls := "com/example/vestline/vestline/io/Marks", name := "lastAtOrBefore", desc := "(J)I" } : Jvm.MethodName) prog_16_method_3_code (6 : Nat) (Option.some Jvm.ClassFile.FieldType.int)]
set_option maxRecDepth 65536 in
theorem codes_eq : words1.filter isCode = codes1 := rfl
theorem w_codes : ∀ c ∈ words1.filter isCode, c.before args0 about1 = true := by
  rw [codes_eq]
  intro c hc
  simp only [codes1, List.mem_cons, List.not_mem_nil, or_false] at hc
  rcases hc with rfl | rfl | rfl | rfl | rfl | rfl | rfl
  · exact w_c0
  · exact w_c1
  · exact w_c2
  · exact w_c3
  · exact w_c4
  · exact w_c5
  · exact w_c6
set_option maxRecDepth 65536 in
theorem w_t1 : (words1.take 24).all (fun c => isCode c || c.before args0 about1) = true := by decide +kernel
set_option maxRecDepth 65536 in
theorem w_t2 : (words1.drop 24).all (fun c => isCode c || c.before args0 about1) = true := by decide +kernel
theorem w_tables : (allAtoms (Jvm.Cond.code x code maxLocals ret :: tables_1)).before args0 about1 = true := by
  rw [allAtoms_all]
  show words1.all (fun c => c.before args0 about1) = true
  refine all_split ?_ w_codes
  rw [← List.take_append_drop 24 words1, List.all_append, w_t1, w_t2]
  rfl
set_option maxRecDepth 65536 in
theorem w_case : (Jvm.Cond.and given_1 narrow_1).before args0 about1 = true := by decide +kernel
theorem w_applies : (headSpec (Jvm.Cond.code x code maxLocals ret :: tables_1) room_1).applies x e0.platform about1 = true :=
  (Spec.applies_iff w_frames).mpr ⟨w_running, w_runnable, w_alone, w_named, w_hears, w_ripe, w_room, w_tables⟩
theorem atStart : AtStart classFile x code maxLocals ret World_1 tables_1 room_1 Calls_1 rest_1 Pre_1 launch0 p0 e0 about1 theMethod args0 below0 :=
  ⟨lists_1, trivial, launch0.admits_env _ _ _, launch0.least_env, fairChoices_fair.cas, fairChoices_fair.clock, w_frames, w_args, w_heap, w_applies, trivial, trivial, w_case⟩
end start1
theorem witness_1 : WitnessClaimed_1 := ⟨start1.p0, start1.e0, start1.about1, start1.theMethod, start1.args0, start1.below0, start1.atStart⟩
end Jvm.Pilot.@@N@@
