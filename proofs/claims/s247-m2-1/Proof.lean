import JvmDerived
import JvmDerived.Pilot.@@N@@Statement
import JvmDerived.Pilot.@@N@@Code
set_option linter.unusedVariables false
set_option linter.unusedSimpArgs false
namespace Jvm.OwnWP
open Sem ClassFile Op Lib Jvm.Stand Jvm.Free Jvm.LawKit Jvm.RoadKit
/-- the fixed things of a body's walk -/
abbrev Cx := Program × Launch × Env × Room × State × MethodId × Array Value × List Frame × Method × Code × State × Nat × (Option Value → Heap → Prop) × (Outcome → State → List Loc → Prop)
def Cx.p (k : Cx) : Program := k.1
def Cx.l (k : Cx) : Launch := k.2.1
def Cx.e (k : Cx) : Env := k.2.2.1
def Cx.R (k : Cx) : Room := k.2.2.2.1
def Cx.s (k : Cx) : State := k.2.2.2.2.1
def Cx.m (k : Cx) : MethodId := k.2.2.2.2.2.1
def Cx.args (k : Cx) : Array Value := k.2.2.2.2.2.2.1
def Cx.below (k : Cx) : List Frame := k.2.2.2.2.2.2.2.1
def Cx.meth (k : Cx) : Method := k.2.2.2.2.2.2.2.2.1
def Cx.c (k : Cx) : Code := k.2.2.2.2.2.2.2.2.2.1
def Cx.Z (k : Cx) : State := k.2.2.2.2.2.2.2.2.2.2.1
def Cx.n0 (k : Cx) : Nat := k.2.2.2.2.2.2.2.2.2.2.2.1
def Cx.Q (k : Cx) : Option Value → Heap → Prop := k.2.2.2.2.2.2.2.2.2.2.2.2.1
/-- what the body's end must say of the frame -/
def Cx.Fin (k : Cx) : Outcome → State → List Loc → Prop := k.2.2.2.2.2.2.2.2.2.2.2.2.2
def Cx.St (k : Cx) (T : State) (locs : List Loc) (cells slots : Nat) : Prop := Stand k.p k.l k.e k.R k.s k.m k.args k.below k.meth k.c T locs cells slots
def Cx.Go (k : Cx) (a t : State) : Prop := Steps k.p.tables k.e k.below a t
def Cx.End (k : Cx) (a : State) : Prop := ∃ s₂ o, Steps k.p.tables k.e k.below a s₂ ∧ s₂.status = .running ∧ Ended s₂ k.below o ∧ ∃ v L, o = .returned v ∧ (k.Q v s₂.heap ∧ Fr k.n0 L) ∧ k.Fin o s₂ L
/-- from here the body runs to its end and leaves what Q says -/
def WP (k : Cx) (h : Heap) (cells slots pc : Nat) (ls : List Slot) (st : List Value) : Prop :=
  ∀ (T : State) (locs : List Loc), k.St T locs cells slots → T.heap = h → Fr k.n0 locs → k.End (T.setTop (mkF k.m pc ls.toArray st))
def Ok (k : Cx) (l : Launch) (Z : State) (n0 : Nat) (rm : Room) (bytes : ByteArray) (maxL : Nat) (y : MethodName) (ret : Option FieldType) (Q : Option Value → Heap → Prop) : Prop :=
  k.p.tables.exec = Jvm.exec ∧ Z.Warmed39 k.s.vm ∧ k.R = rm ∧ k.c.code = bytes ∧ k.c.maxLocals = maxL ∧ k.s.vm.findClass y.cls = some k.m.cls ∧ k.meth.sig.returnType = ret ∧ k.meth.locks = false ∧ k.meth.name = y.name ∧ k.l = l ∧ k.Z = Z ∧ k.n0 = n0 ∧ k.Q = Q ∧ ∀ v s₂ L, Q v s₂.heap → FrameEnd k.s (.returned v) s₂ L k.R.cells k.R.slots → k.Fin (.returned v) s₂ L
section Base
variable {k : Cx} {l : Launch} {Z : State} {n0 : Nat} {rm : Room} {bytes : ByteArray} {maxL : Nat} {y : MethodName} {ret : Option FieldType} {Q : Option Value → Heap → Prop}
theorem Ok.hx (K : Ok k l Z n0 rm bytes maxL y ret Q) : k.p.tables.exec = Jvm.exec := K.1
theorem Ok.hZ (K : Ok k l Z n0 rm bytes maxL y ret Q) : Z.Warmed39 k.s.vm := K.2.1
theorem Ok.hR (K : Ok k l Z n0 rm bytes maxL y ret Q) : k.R = rm := K.2.2.1
theorem Ok.hby (K : Ok k l Z n0 rm bytes maxL y ret Q) : k.c.code = bytes := K.2.2.2.1
theorem Ok.hml (K : Ok k l Z n0 rm bytes maxL y ret Q) : k.c.maxLocals = maxL := K.2.2.2.2.1
theorem Ok.hown (K : Ok k l Z n0 rm bytes maxL y ret Q) : k.s.vm.findClass y.cls = some k.m.cls := K.2.2.2.2.2.1
theorem Ok.hret (K : Ok k l Z n0 rm bytes maxL y ret Q) : k.meth.sig.returnType = ret := K.2.2.2.2.2.2.1
theorem Ok.hlk (K : Ok k l Z n0 rm bytes maxL y ret Q) : k.meth.locks = false := K.2.2.2.2.2.2.2.1
theorem Ok.hnm (K : Ok k l Z n0 rm bytes maxL y ret Q) : k.meth.name = y.name := K.2.2.2.2.2.2.2.2.1
theorem Ok.hl (K : Ok k l Z n0 rm bytes maxL y ret Q) : k.l = l := K.2.2.2.2.2.2.2.2.2.1
theorem Ok.hZe (K : Ok k l Z n0 rm bytes maxL y ret Q) : k.Z = Z := K.2.2.2.2.2.2.2.2.2.2.1
theorem Ok.hn0 (K : Ok k l Z n0 rm bytes maxL y ret Q) : k.n0 = n0 := K.2.2.2.2.2.2.2.2.2.2.2.1
theorem Ok.hQ (K : Ok k l Z n0 rm bytes maxL y ret Q) : k.Q = Q := K.2.2.2.2.2.2.2.2.2.2.2.2.1
theorem Ok.hfin (K : Ok k l Z n0 rm bytes maxL y ret Q) : ∀ v s₂ L, Q v s₂.heap → FrameEnd k.s (.returned v) s₂ L k.R.cells k.R.slots → k.Fin (.returned v) s₂ L := K.2.2.2.2.2.2.2.2.2.2.2.2.2
theorem Ok.dec (K : Ok k l Z n0 rm bytes maxL y ret Q) {pc : Nat} {r : Except DecodeError (Instr × Nat)} (h : decode bytes pc = r) : decode k.c.code pc = r := hb K.hby h
theorem End.back {a b : State} (st : ∀ t, k.Go b t → k.Go a t) (w : k.End b) : k.End a := by
  obtain ⟨s2, o, h1, r⟩ := w
  exact ⟨s2, o, st _ h1, r⟩
theorem arrGet {ls : List Slot} {i : Nat} {o : Slot} (h : ls[i]? = some o) : ls.toArray[i]? = some o := by simpa using h
variable {h : Heap} {cells slots pc : Nat} {ls : List Slot} {st : List Value}
theorem WP.plain {pc' : Nat} {ls' : List Slot} {st' : List Value} (hs : ∀ T, At T k.m k.c k.below → ∀ t, Steps k.p.tables k.e k.below (T.setTop (mkF k.m pc' ls'.toArray st')) t → Steps k.p.tables k.e k.below (T.setTop (mkF k.m pc ls.toArray st)) t)
    (w : WP k h cells slots pc' ls' st') : WP k h cells slots pc ls st := fun T locs X e N => End.back (fun t q => hs T X.here t q) (w T locs X e N)
theorem WP.mono {cells' slots' : Nat} (hc : cells ≤ cells') (hs : slots ≤ slots') (w : WP k h cells' slots' pc ls st) : WP k h cells slots pc ls st := fun T locs X e N =>
  w T locs { X with same := X.same.mono hc hs } e N
theorem WP.cast {pc' : Nat} {ls' : List Slot} {st' : List Value} {h' : Heap} (w : WP k h' cells slots pc' ls' st') (e1 : h' = h) (e2 : pc' = pc) (e3 : ls' = ls) (e4 : st' = st) : WP k h cells slots pc ls st := by subst e1 e2 e3 e4; exact w
/-- the contract of a body, at given arguments and a given heap -/
def Con (l : Launch) (Z : State) (y : MethodName) (bytes : ByteArray) (maxL : Nat) (ret : Option FieldType) (rm : Room) (n0 : Nat) (as : Array Value) (h0 : Heap) (Q : Option Value → Heap → Prop) : Prop :=
  ∀ ws, MetFree l y (head1 (Jvm.Cond.code y bytes maxL ret :: ws) rm) (fun a U => a = as ∧ Z.Warmed39 U.vm ∧ U.heap = h0) (fun _ _ _ _ _ => True) (fun _ U o U' => ∃ v L, o = .returned v ∧ (Q v U'.heap ∧ Fr n0 L) ∧ FrameEnd U o U' L rm.cells rm.slots)
def R1 (Q : Value → Heap → Prop) : Option Value → Heap → Prop := fun v h => ∃ r, v = some r ∧ Q r h
def R0 (Q : Heap → Prop) : Option Value → Heap → Prop := fun v h => v = none ∧ Q h
theorem Con.of {as : Array Value} {h0 : Heap} (hp : plainFor y = true) (he : ∀ m, entryFrame m as maxL = mkF m 0 ls.toArray [])
    (hwp : ∀ k, Ok k l Z n0 rm bytes maxL y ret Q → WP k h0 0 0 0 ls []) : Con l Z y bytes maxL ret rm n0 as h0 Q := by
  intro ws
  refine MetFree.of_bodySF hp hisR ?_
  intro p e s m args below meth c s₁ Bd hml0 hP hK
  obtain ⟨rfl, hZ, hh⟩ := hP
  have X0 : Stand p l e rm s m args below meth c s₁ [] 0 0 := Stand.of_body Bd
  have e0 : s₁.heap = h0 := by rw [← hh, Bd.state]; rfl
  have w := hwp (p, l, e, rm, s, m, args, below, meth, c, Z, n0, Q, fun o s₂ L => FrameEnd s o s₂ L rm.cells rm.slots) ⟨Bd.exec, hZ, rfl, Bd.bytes, hml0, findClass_of_methodNamed Bd.named, Bd.returns, Bd.notSynchronized, (name_of_methodNamed Bd.named Bd.method).1, rfl, rfl, rfl, rfl, fun _ _ _ _ q => q⟩ s₁ [] X0 e0 (Fr.nil n0)
  obtain ⟨s2, o, h1, h2, h3, h4⟩ := w
  exact ⟨s2, o, castTop (he m) h1, h2, h3, h4⟩
theorem Con.mono {as : Array Value} {h0 : Heap} {Q' : Option Value → Heap → Prop} (C : Con l Z y bytes maxL ret rm n0 as h0 Q) (hq : ∀ v h, Q v h → Q' v h) : Con l Z y bytes maxL ret rm n0 as h0 Q' := by
  intro ws p e ha hc hk s m args below hf happ hP hK
  obtain ⟨n, o, h1, h2, h3, v, L, e1, q, r⟩ := C ws p e ha hc hk s m args below hf happ hP hK
  exact ⟨n, o, h1, h2, h3, v, L, e1, ⟨hq _ _ q.1, q.2⟩, r⟩
end Base
section Plain
variable {k : Cx} {l : Launch} {Z : State} {n0 : Nat} {rm : Room} {bytes : ByteArray} {maxL : Nat} {y : MethodName} {ret : Option FieldType} {Q : Option Value → Heap → Prop} {h : Heap} {cells slots pc : Nat} {ls : List Slot} {st : List Value}

theorem WP.iload (K : Ok k l Z n0 rm bytes maxL y ret Q) {i : Nat} {v : Int32} (pc' : Nat) (hd : decode bytes pc = .ok (.iload i, 2)) (hp : pc + 2 = pc') (hl : ls[i]? = some (.val (.int v))) (w : WP k h cells slots pc' ls (.int v :: st)) : WP k h cells slots pc ls st := by
  subst hp; exact w.plain fun T A t q => XS.iload A K.hx rfl (K.dec hd) (arrGet hl) q
theorem WP.iloadN (K : Ok k l Z n0 rm bytes maxL y ret Q) {i : Fin 4} {v : Int32} (pc' : Nat) (hd : decode bytes pc = .ok (.iload_n i, 1)) (hp : pc + 1 = pc') (hl : ls[i.val]? = some (.val (.int v))) (w : WP k h cells slots pc' ls (.int v :: st)) : WP k h cells slots pc ls st := by
  subst hp; exact w.plain fun T A t q => XS.iloadN A K.hx rfl (K.dec hd) (arrGet hl) q
theorem WP.lload (K : Ok k l Z n0 rm bytes maxL y ret Q) {i : Nat} {v : Int64} (pc' : Nat) (hd : decode bytes pc = .ok (.lload i, 2)) (hp : pc + 2 = pc') (hl : ls[i]? = some (.val (.long v))) (w : WP k h cells slots pc' ls (.long v :: st)) : WP k h cells slots pc ls st := by
  subst hp; exact w.plain fun T A t q => XT.lload A K.hx rfl (K.dec hd) (arrGet hl) q
theorem WP.lloadN (K : Ok k l Z n0 rm bytes maxL y ret Q) {i : Fin 4} {v : Int64} (pc' : Nat) (hd : decode bytes pc = .ok (.lload_n i, 1)) (hp : pc + 1 = pc') (hl : ls[i.val]? = some (.val (.long v))) (w : WP k h cells slots pc' ls (.long v :: st)) : WP k h cells slots pc ls st := by
  subst hp; exact w.plain fun T A t q => XT.lloadN A K.hx rfl (K.dec hd) (arrGet hl) q
theorem WP.aload (K : Ok k l Z n0 rm bytes maxL y ret Q) {i : Nat} {v : Value} (pc' : Nat) (hd : decode bytes pc = .ok (.aload i, 2)) (hp : pc + 2 = pc') (hl : ls[i]? = some (.val (v))) (hv : v.isRef = true) (w : WP k h cells slots pc' ls (v :: st)) : WP k h cells slots pc ls st := by
  subst hp; exact w.plain fun T A t q => XS.aload A K.hx rfl (K.dec hd) (arrGet hl) hv q
theorem WP.aloadN (K : Ok k l Z n0 rm bytes maxL y ret Q) {i : Fin 4} {v : Value} (pc' : Nat) (hd : decode bytes pc = .ok (.aload_n i, 1)) (hp : pc + 1 = pc') (hl : ls[i.val]? = some (.val (v))) (hv : v.isRef = true) (w : WP k h cells slots pc' ls (v :: st)) : WP k h cells slots pc ls st := by
  subst hp; exact w.plain fun T A t q => XS.aloadN A K.hx rfl (K.dec hd) (arrGet hl) hv q
theorem WP.istore (K : Ok k l Z n0 rm bytes maxL y ret Q) {i : Nat} {v : Int32} (pc' : Nat) (ls' : List Slot) (hd : decode bytes pc = .ok (.istore i, 2)) (hp : pc + 2 = pc') (hl : storeLocals ls.toArray i (.int v) = some ls'.toArray) (w : WP k h cells slots pc' ls' st) : WP k h cells slots pc ls (.int v :: st) := by
  subst hp; exact w.plain fun T A t q => XS.istore A K.hx rfl (K.dec hd) rfl hl q
theorem WP.istoreN (K : Ok k l Z n0 rm bytes maxL y ret Q) {i : Fin 4} {v : Int32} (pc' : Nat) (ls' : List Slot) (hd : decode bytes pc = .ok (.istore_n i, 1)) (hp : pc + 1 = pc') (hl : storeLocals ls.toArray i.val (.int v) = some ls'.toArray) (w : WP k h cells slots pc' ls' st) : WP k h cells slots pc ls (.int v :: st) := by
  subst hp; exact w.plain fun T A t q => XS.istoreN A K.hx rfl (K.dec hd) rfl hl q
theorem WP.lstore (K : Ok k l Z n0 rm bytes maxL y ret Q) {i : Nat} {v : Int64} (pc' : Nat) (ls' : List Slot) (hd : decode bytes pc = .ok (.lstore i, 2)) (hp : pc + 2 = pc') (hl : storeLocals ls.toArray i (.long v) = some ls'.toArray) (w : WP k h cells slots pc' ls' st) : WP k h cells slots pc ls (.long v :: st) := by
  subst hp; exact w.plain fun T A t q => XT.lstore A K.hx rfl (K.dec hd) rfl hl q
theorem WP.lstoreN (K : Ok k l Z n0 rm bytes maxL y ret Q) {i : Fin 4} {v : Int64} (pc' : Nat) (ls' : List Slot) (hd : decode bytes pc = .ok (.lstore_n i, 1)) (hp : pc + 1 = pc') (hl : storeLocals ls.toArray i.val (.long v) = some ls'.toArray) (w : WP k h cells slots pc' ls' st) : WP k h cells slots pc ls (.long v :: st) := by
  subst hp; exact w.plain fun T A t q => XT.lstoreN A K.hx rfl (K.dec hd) rfl hl q
theorem WP.astore (K : Ok k l Z n0 rm bytes maxL y ret Q) {i : Nat} {v : Value} (pc' : Nat) (ls' : List Slot) (hd : decode bytes pc = .ok (.astore i, 2)) (hp : pc + 2 = pc') (hv : v.isRef = true) (hl : storeLocals ls.toArray i (v) = some ls'.toArray) (w : WP k h cells slots pc' ls' st) : WP k h cells slots pc ls (v :: st) := by
  subst hp; exact w.plain fun T A t q => XS.astore A K.hx rfl (K.dec hd) rfl hv hl q
theorem WP.astoreN (K : Ok k l Z n0 rm bytes maxL y ret Q) {i : Fin 4} {v : Value} (pc' : Nat) (ls' : List Slot) (hd : decode bytes pc = .ok (.astore_n i, 1)) (hp : pc + 1 = pc') (hv : v.isRef = true) (hl : storeLocals ls.toArray i.val (v) = some ls'.toArray) (w : WP k h cells slots pc' ls' st) : WP k h cells slots pc ls (v :: st) := by
  subst hp; exact w.plain fun T A t q => XS.astoreN A K.hx rfl (K.dec hd) rfl hv hl q
theorem WP.iconst (K : Ok k l Z n0 rm bytes maxL y ret Q) {i : Int} (v : Int32) (pc' : Nat) (hd : decode bytes pc = .ok (.iconst i, 1)) (hp : pc + 1 = pc') (hv : Int32.ofInt i = v) (w : WP k h cells slots pc' ls (.int v :: st)) : WP k h cells slots pc ls st := by
  subst hp; exact w.plain fun T A t q => XT.iconstV A K.hx rfl v (K.dec hd) hv q
theorem WP.bipush (K : Ok k l Z n0 rm bytes maxL y ret Q) {i : Int} (v : Int32) (pc' : Nat) (hd : decode bytes pc = .ok (.bipush i, 2)) (hp : pc + 2 = pc') (hv : (Int8.ofInt i).toInt32 = v) (w : WP k h cells slots pc' ls (.int v :: st)) : WP k h cells slots pc ls st := by
  subst hp; exact w.plain fun T A t q => XT.bipushV A K.hx rfl v (K.dec hd) hv q
theorem WP.sipush (K : Ok k l Z n0 rm bytes maxL y ret Q) {i : Int} (v : Int32) (pc' : Nat) (hd : decode bytes pc = .ok (.sipush i, 3)) (hp : pc + 3 = pc') (hv : (Int16.ofInt i).toInt32 = v) (w : WP k h cells slots pc' ls (.int v :: st)) : WP k h cells slots pc ls st := by
  subst hp; exact w.plain fun T A t q => XT.sipushV A K.hx rfl v (K.dec hd) hv q
theorem WP.lconst (K : Ok k l Z n0 rm bytes maxL y ret Q) {i : Fin 2} (v : Int64) (pc' : Nat) (hd : decode bytes pc = .ok (.lconst i, 1)) (hp : pc + 1 = pc') (hv : Int64.ofNat i = v) (w : WP k h cells slots pc' ls (.long v :: st)) : WP k h cells slots pc ls st := by
  subst hp; exact w.plain fun T A t q => XT.lconstV A K.hx rfl v (K.dec hd) hv q
theorem WP.aconstNull (K : Ok k l Z n0 rm bytes maxL y ret Q) (pc' : Nat) (hd : decode bytes pc = .ok (.aconst_null, 1)) (hp : pc + 1 = pc') (w : WP k h cells slots pc' ls (.null :: st)) : WP k h cells slots pc ls st := by
  subst hp; exact w.plain fun T A t q => XS.aconstNull A K.hx rfl (K.dec hd) q
theorem WP.iadd (K : Ok k l Z n0 rm bytes maxL y ret Q) {x : Int32} {z : Int32} (pc' : Nat) (hd : decode bytes pc = .ok (.iadd, 1)) (hp : pc + 1 = pc') (w : WP k h cells slots pc' ls (.int (x + z) :: st)) : WP k h cells slots pc ls (.int z :: .int x :: st) := by
  subst hp; exact w.plain fun T A t q => XS.iadd A K.hx rfl (K.dec hd) rfl q
theorem WP.isub (K : Ok k l Z n0 rm bytes maxL y ret Q) {x : Int32} {z : Int32} (pc' : Nat) (hd : decode bytes pc = .ok (.isub, 1)) (hp : pc + 1 = pc') (w : WP k h cells slots pc' ls (.int (x - z) :: st)) : WP k h cells slots pc ls (.int z :: .int x :: st) := by
  subst hp; exact w.plain fun T A t q => XS.isub A K.hx rfl (K.dec hd) rfl q
theorem WP.imul (K : Ok k l Z n0 rm bytes maxL y ret Q) {x : Int32} {z : Int32} (pc' : Nat) (hd : decode bytes pc = .ok (.imul, 1)) (hp : pc + 1 = pc') (w : WP k h cells slots pc' ls (.int (x * z) :: st)) : WP k h cells slots pc ls (.int z :: .int x :: st) := by
  subst hp; exact w.plain fun T A t q => XS.imul A K.hx rfl (K.dec hd) rfl q
theorem WP.iand (K : Ok k l Z n0 rm bytes maxL y ret Q) {x : Int32} {z : Int32} (pc' : Nat) (hd : decode bytes pc = .ok (.iand, 1)) (hp : pc + 1 = pc') (w : WP k h cells slots pc' ls (.int (x &&& z) :: st)) : WP k h cells slots pc ls (.int z :: .int x :: st) := by
  subst hp; exact w.plain fun T A t q => XS.iand A K.hx rfl (K.dec hd) rfl q
theorem WP.ior (K : Ok k l Z n0 rm bytes maxL y ret Q) {x : Int32} {z : Int32} (pc' : Nat) (hd : decode bytes pc = .ok (.ior, 1)) (hp : pc + 1 = pc') (w : WP k h cells slots pc' ls (.int (x ||| z) :: st)) : WP k h cells slots pc ls (.int z :: .int x :: st) := by
  subst hp; exact w.plain fun T A t q => XT.ior A K.hx rfl (K.dec hd) rfl q
theorem WP.ixor (K : Ok k l Z n0 rm bytes maxL y ret Q) {x : Int32} {z : Int32} (pc' : Nat) (hd : decode bytes pc = .ok (.ixor, 1)) (hp : pc + 1 = pc') (w : WP k h cells slots pc' ls (.int (x ^^^ z) :: st)) : WP k h cells slots pc ls (.int z :: .int x :: st) := by
  subst hp; exact w.plain fun T A t q => XT.ixor A K.hx rfl (K.dec hd) rfl q
theorem WP.ishl (K : Ok k l Z n0 rm bytes maxL y ret Q) {x : Int32} {z : Int32} (pc' : Nat) (hd : decode bytes pc = .ok (.ishl, 1)) (hp : pc + 1 = pc') (w : WP k h cells slots pc' ls (.int (x <<< (z &&& 31)) :: st)) : WP k h cells slots pc ls (.int z :: .int x :: st) := by
  subst hp; exact w.plain fun T A t q => XT.ishl A K.hx rfl (K.dec hd) rfl q
theorem WP.ishr (K : Ok k l Z n0 rm bytes maxL y ret Q) {x : Int32} {z : Int32} (pc' : Nat) (hd : decode bytes pc = .ok (.ishr, 1)) (hp : pc + 1 = pc') (w : WP k h cells slots pc' ls (.int (x >>> (z &&& 31)) :: st)) : WP k h cells slots pc ls (.int z :: .int x :: st) := by
  subst hp; exact w.plain fun T A t q => XT.ishr A K.hx rfl (K.dec hd) rfl q
theorem WP.iushr (K : Ok k l Z n0 rm bytes maxL y ret Q) {x : Int32} {z : Int32} (pc' : Nat) (hd : decode bytes pc = .ok (.iushr, 1)) (hp : pc + 1 = pc') (w : WP k h cells slots pc' ls (.int (XT.ushr x z) :: st)) : WP k h cells slots pc ls (.int z :: .int x :: st) := by
  subst hp; exact w.plain fun T A t q => XT.iushr A K.hx rfl (K.dec hd) rfl q
theorem WP.ladd (K : Ok k l Z n0 rm bytes maxL y ret Q) {x : Int64} {z : Int64} (pc' : Nat) (hd : decode bytes pc = .ok (.ladd, 1)) (hp : pc + 1 = pc') (w : WP k h cells slots pc' ls (.long (x + z) :: st)) : WP k h cells slots pc ls (.long z :: .long x :: st) := by
  subst hp; exact w.plain fun T A t q => XT.ladd A K.hx rfl (K.dec hd) rfl q
theorem WP.lsub (K : Ok k l Z n0 rm bytes maxL y ret Q) {x : Int64} {z : Int64} (pc' : Nat) (hd : decode bytes pc = .ok (.lsub, 1)) (hp : pc + 1 = pc') (w : WP k h cells slots pc' ls (.long (x - z) :: st)) : WP k h cells slots pc ls (.long z :: .long x :: st) := by
  subst hp; exact w.plain fun T A t q => XT.lsub A K.hx rfl (K.dec hd) rfl q
theorem WP.lmul (K : Ok k l Z n0 rm bytes maxL y ret Q) {x : Int64} {z : Int64} (pc' : Nat) (hd : decode bytes pc = .ok (.lmul, 1)) (hp : pc + 1 = pc') (w : WP k h cells slots pc' ls (.long (x * z) :: st)) : WP k h cells slots pc ls (.long z :: .long x :: st) := by
  subst hp; exact w.plain fun T A t q => XT.lmul A K.hx rfl (K.dec hd) rfl q
theorem WP.land (K : Ok k l Z n0 rm bytes maxL y ret Q) {x : Int64} {z : Int64} (pc' : Nat) (hd : decode bytes pc = .ok (.land, 1)) (hp : pc + 1 = pc') (w : WP k h cells slots pc' ls (.long (x &&& z) :: st)) : WP k h cells slots pc ls (.long z :: .long x :: st) := by
  subst hp; exact w.plain fun T A t q => XT.land A K.hx rfl (K.dec hd) rfl q
theorem WP.lor (K : Ok k l Z n0 rm bytes maxL y ret Q) {x : Int64} {z : Int64} (pc' : Nat) (hd : decode bytes pc = .ok (.lor, 1)) (hp : pc + 1 = pc') (w : WP k h cells slots pc' ls (.long (x ||| z) :: st)) : WP k h cells slots pc ls (.long z :: .long x :: st) := by
  subst hp; exact w.plain fun T A t q => XT.lor A K.hx rfl (K.dec hd) rfl q
theorem WP.lxor (K : Ok k l Z n0 rm bytes maxL y ret Q) {x : Int64} {z : Int64} (pc' : Nat) (hd : decode bytes pc = .ok (.lxor, 1)) (hp : pc + 1 = pc') (w : WP k h cells slots pc' ls (.long (x ^^^ z) :: st)) : WP k h cells slots pc ls (.long z :: .long x :: st) := by
  subst hp; exact w.plain fun T A t q => XT.lxor A K.hx rfl (K.dec hd) rfl q
theorem WP.lshl (K : Ok k l Z n0 rm bytes maxL y ret Q) {x : Int64} {z : Int32} (pc' : Nat) (hd : decode bytes pc = .ok (.lshl, 1)) (hp : pc + 1 = pc') (w : WP k h cells slots pc' ls (.long (x <<< (z.toInt64 &&& 63)) :: st)) : WP k h cells slots pc ls (.int z :: .long x :: st) := by
  subst hp; exact w.plain fun T A t q => XT.lshl A K.hx rfl (K.dec hd) rfl q
theorem WP.lshr (K : Ok k l Z n0 rm bytes maxL y ret Q) {x : Int64} {z : Int32} (pc' : Nat) (hd : decode bytes pc = .ok (.lshr, 1)) (hp : pc + 1 = pc') (w : WP k h cells slots pc' ls (.long (x >>> (z.toInt64 &&& 63)) :: st)) : WP k h cells slots pc ls (.int z :: .long x :: st) := by
  subst hp; exact w.plain fun T A t q => XT.lshr A K.hx rfl (K.dec hd) rfl q
theorem WP.lushr (K : Ok k l Z n0 rm bytes maxL y ret Q) {x : Int64} {z : Int32} (pc' : Nat) (hd : decode bytes pc = .ok (.lushr, 1)) (hp : pc + 1 = pc') (w : WP k h cells slots pc' ls (.long (XT.ushrL x z) :: st)) : WP k h cells slots pc ls (.int z :: .long x :: st) := by
  subst hp; exact w.plain fun T A t q => XT.lushr A K.hx rfl (K.dec hd) rfl q
theorem WP.lcmp (K : Ok k l Z n0 rm bytes maxL y ret Q) {x : Int64} {z : Int64} (pc' : Nat) (hd : decode bytes pc = .ok (.lcmp, 1)) (hp : pc + 1 = pc') (w : WP k h cells slots pc' ls (.int (XT.cmpL x z) :: st)) : WP k h cells slots pc ls (.long z :: .long x :: st) := by
  subst hp; exact w.plain fun T A t q => XT.lcmp A K.hx rfl (K.dec hd) rfl q
theorem WP.idiv (K : Ok k l Z n0 rm bytes maxL y ret Q) {x z : Int32} (pc' : Nat) (hd : decode bytes pc = .ok (.idiv, 1)) (hp : pc + 1 = pc') (hz : z ≠ 0) (w : WP k h cells slots pc' ls (.int (x / z) :: st)) : WP k h cells slots pc ls (.int z :: .int x :: st) := by
  subst hp; exact w.plain fun T A t q => XS.idiv A K.hx rfl (K.dec hd) rfl hz q
theorem WP.irem (K : Ok k l Z n0 rm bytes maxL y ret Q) {x z : Int32} (pc' : Nat) (hd : decode bytes pc = .ok (.irem, 1)) (hp : pc + 1 = pc') (hz : z ≠ 0) (w : WP k h cells slots pc' ls (.int (x % z) :: st)) : WP k h cells slots pc ls (.int z :: .int x :: st) := by
  subst hp; rw [← irem_eq_mod] at w; exact w.plain fun T A t q => XS.irem A K.hx rfl (K.dec hd) rfl hz q
theorem WP.ineg (K : Ok k l Z n0 rm bytes maxL y ret Q) {x : Int32} (pc' : Nat) (hd : decode bytes pc = .ok (.ineg, 1)) (hp : pc + 1 = pc') (w : WP k h cells slots pc' ls (.int (-x) :: st)) : WP k h cells slots pc ls (.int x :: st) := by
  subst hp; exact w.plain fun T A t q => XS.ineg A K.hx rfl (K.dec hd) rfl q
theorem WP.lneg (K : Ok k l Z n0 rm bytes maxL y ret Q) {x : Int64} (pc' : Nat) (hd : decode bytes pc = .ok (.lneg, 1)) (hp : pc + 1 = pc') (w : WP k h cells slots pc' ls (.long (-x) :: st)) : WP k h cells slots pc ls (.long x :: st) := by
  subst hp; exact w.plain fun T A t q => XT.lneg A K.hx rfl (K.dec hd) rfl q
theorem WP.i2l (K : Ok k l Z n0 rm bytes maxL y ret Q) {x : Int32} (pc' : Nat) (hd : decode bytes pc = .ok (.i2l, 1)) (hp : pc + 1 = pc') (w : WP k h cells slots pc' ls (.long x.toInt64 :: st)) : WP k h cells slots pc ls (.int x :: st) := by
  subst hp; exact w.plain fun T A t q => XT.i2l A K.hx rfl (K.dec hd) rfl q
theorem WP.l2i (K : Ok k l Z n0 rm bytes maxL y ret Q) {x : Int64} (pc' : Nat) (hd : decode bytes pc = .ok (.l2i, 1)) (hp : pc + 1 = pc') (w : WP k h cells slots pc' ls (.int x.toInt32 :: st)) : WP k h cells slots pc ls (.long x :: st) := by
  subst hp; exact w.plain fun T A t q => XT.l2i A K.hx rfl (K.dec hd) rfl q
theorem WP.i2b (K : Ok k l Z n0 rm bytes maxL y ret Q) {x : Int32} (pc' : Nat) (hd : decode bytes pc = .ok (.i2b, 1)) (hp : pc + 1 = pc') (w : WP k h cells slots pc' ls (.int x.toInt8.toInt32 :: st)) : WP k h cells slots pc ls (.int x :: st) := by
  subst hp; exact w.plain fun T A t q => XT.i2b A K.hx rfl (K.dec hd) rfl q
theorem WP.i2c (K : Ok k l Z n0 rm bytes maxL y ret Q) {x : Int32} (pc' : Nat) (hd : decode bytes pc = .ok (.i2c, 1)) (hp : pc + 1 = pc') (w : WP k h cells slots pc' ls (.int x.toUInt32.toUInt16.toUInt32.toInt32 :: st)) : WP k h cells slots pc ls (.int x :: st) := by
  subst hp; exact w.plain fun T A t q => XT.i2c A K.hx rfl (K.dec hd) rfl q
theorem WP.i2s (K : Ok k l Z n0 rm bytes maxL y ret Q) {x : Int32} (pc' : Nat) (hd : decode bytes pc = .ok (.i2s, 1)) (hp : pc + 1 = pc') (w : WP k h cells slots pc' ls (.int x.toInt16.toInt32 :: st)) : WP k h cells slots pc ls (.int x :: st) := by
  subst hp; exact w.plain fun T A t q => XT.i2s A K.hx rfl (K.dec hd) rfl q
theorem WP.dup (K : Ok k l Z n0 rm bytes maxL y ret Q) {x : Value} (pc' : Nat) (hd : decode bytes pc = .ok (.dup, 1)) (hp : pc + 1 = pc') (hc : x.category = 1) (w : WP k h cells slots pc' ls (x :: x :: st)) : WP k h cells slots pc ls (x :: st) := by
  subst hp; exact w.plain fun T A t q => XS.dup A K.hx rfl (K.dec hd) rfl hc q
theorem WP.pop (K : Ok k l Z n0 rm bytes maxL y ret Q) {x : Value} (pc' : Nat) (hd : decode bytes pc = .ok (.pop, 1)) (hp : pc + 1 = pc') (hc : x.category = 1) (w : WP k h cells slots pc' ls st) : WP k h cells slots pc ls (x :: st) := by
  subst hp; exact w.plain fun T A t q => XT.pop A K.hx rfl (K.dec hd) rfl hc q
theorem WP.dupX1 (K : Ok k l Z n0 rm bytes maxL y ret Q) {x z : Value} (pc' : Nat) (hd : decode bytes pc = .ok (.dup_x1, 1)) (hp : pc + 1 = pc') (hc : x.category = 1) (hc' : z.category = 1) (w : WP k h cells slots pc' ls (x :: z :: x :: st)) : WP k h cells slots pc ls (x :: z :: st) := by
  subst hp; exact w.plain fun T A t q => XT.dupX1 A K.hx rfl (K.dec hd) rfl hc hc' q
theorem WP.dup2 (K : Ok k l Z n0 rm bytes maxL y ret Q) {x z : Value} (pc' : Nat) (hd : decode bytes pc = .ok (.dup2, 1)) (hp : pc + 1 = pc') (hc : x.category = 1) (hc' : z.category = 1) (w : WP k h cells slots pc' ls (x :: z :: x :: z :: st)) : WP k h cells slots pc ls (x :: z :: st) := by
  subst hp; exact w.plain fun T A t q => XT.dup2 A K.hx rfl (K.dec hd) rfl hc hc' q
theorem WP.dup2L (K : Ok k l Z n0 rm bytes maxL y ret Q) {x : Int64} (pc' : Nat) (hd : decode bytes pc = .ok (.dup2, 1)) (hp : pc + 1 = pc') (w : WP k h cells slots pc' ls (.long x :: .long x :: st)) : WP k h cells slots pc ls (.long x :: st) := by
  subst hp; exact w.plain fun T A t q => XT.dup2L A K.hx rfl (K.dec hd) rfl q
theorem WP.iinc (K : Ok k l Z n0 rm bytes maxL y ret Q) {i : Nat} {cst : Int} {x : Int32} (v : Int32) (pc' : Nat) (ls' : List Slot) (hd : decode bytes pc = .ok (.iinc i cst, 3)) (hp : pc + 3 = pc') (hv : Int32.ofInt cst = v) (hl : ls[i]? = some (.val (.int x))) (hl' : storeLocals ls.toArray i (.int (x + v)) = some ls'.toArray) (w : WP k h cells slots pc' ls' st) : WP k h cells slots pc ls st := by
  subst hp; exact w.plain fun T A t q => XT.iincV A K.hx rfl v (K.dec hd) hv (arrGet hl) hl' q
theorem WP.goto (K : Ok k l Z n0 rm bytes maxL y ret Q) {o : Int} (pc' : Nat) (hd : decode bytes pc = .ok (.goto o, 3)) (hp : (pc : Int) + o = pc') (w : WP k h cells slots pc' ls st) : WP k h cells slots pc ls st :=
  w.plain fun T A t q => XS.goto A K.hx rfl (pc0 := pc) (pc' := pc') rfl (K.dec hd) (by omega) (by omega) q
theorem WP.icmp (K : Ok k l Z n0 rm bytes maxL y ret Q) {cd : ClassFile.Cond} {o : Int} {x z : Int32} (tp fp : Nat) (hd : decode bytes pc = .ok (.if_icmp cd o, 3)) (ht : (pc : Int) + o = tp) (hf : pc + 3 = fp)
    (wt : if_icmp.holds cd x z = true → WP k h cells slots tp ls st) (wf : if_icmp.holds cd x z = false → WP k h cells slots fp ls st) : WP k h cells slots pc ls (.int z :: .int x :: st) := by
  subst hf
  cases hh : if_icmp.holds cd x z
  · exact (wf hh).plain fun T A t q => XS.icmpNo A K.hx rfl (K.dec hd) rfl hh q
  · exact (wt hh).plain fun T A t q => XS.icmpYes A K.hx rfl (pc0 := pc) (pc' := tp) rfl (K.dec hd) rfl hh (by omega) (by omega) q
theorem WP.if0 (K : Ok k l Z n0 rm bytes maxL y ret Q) {cd : ClassFile.Cond} {o : Int} {x : Int32} (tp fp : Nat) (hd : decode bytes pc = .ok (.ifCond cd o, 3)) (ht : (pc : Int) + o = tp) (hf : pc + 3 = fp)
    (wt : ifCond.holds cd x = true → WP k h cells slots tp ls st) (wf : ifCond.holds cd x = false → WP k h cells slots fp ls st) : WP k h cells slots pc ls (.int x :: st) := by
  subst hf
  cases hh : ifCond.holds cd x
  · exact (wf hh).plain fun T A t q => XS.ifNo A K.hx rfl (K.dec hd) rfl hh q
  · exact (wt hh).plain fun T A t q => XS.ifYes A K.hx rfl (pc0 := pc) (pc' := tp) rfl (K.dec hd) rfl hh (by omega) (by omega) q
theorem h_lt {x z : Int32} : if_icmp.holds .lt x z = decide (x.toInt < z.toInt) := by simp [if_icmp.holds, Int32.lt_iff_toInt_lt]
theorem h_ge {x z : Int32} : if_icmp.holds .ge x z = decide (z.toInt ≤ x.toInt) := by simp [if_icmp.holds, Int32.le_iff_toInt_le]
theorem h_gt {x z : Int32} : if_icmp.holds .gt x z = decide (z.toInt < x.toInt) := by simp [if_icmp.holds, Int32.lt_iff_toInt_lt]
theorem h_le {x z : Int32} : if_icmp.holds .le x z = decide (x.toInt ≤ z.toInt) := by simp [if_icmp.holds, Int32.le_iff_toInt_le]
theorem h_eq {x z : Int32} : if_icmp.holds .eq x z = decide (x.toInt = z.toInt) := by
  rw [Bool.eq_iff_iff, decide_eq_true_iff, Int32.toInt_inj]; simp [if_icmp.holds]
theorem h_ne {x z : Int32} : if_icmp.holds .ne x z = decide (x.toInt ≠ z.toInt) := by
  by_cases q : x = z <;> simp [if_icmp.holds, Int32.toInt_inj, q]
theorem WP.icmp_lt (K : Ok k l Z n0 rm bytes maxL y ret Q) {o : Int} {x z : Int32} (tp fp : Nat) (hd : decode bytes pc = .ok (.if_icmp .lt o, 3)) (ht : (pc : Int) + o = tp) (hf : pc + 3 = fp)
    (wt : x.toInt < z.toInt → WP k h cells slots tp ls st) (wf : z.toInt ≤ x.toInt → WP k h cells slots fp ls st) : WP k h cells slots pc ls (.int z :: .int x :: st) :=
  WP.icmp K tp fp hd ht hf (fun q => wt (by rw [h_lt] at q; exact of_decide_eq_true q)) (fun q => wf (by rw [h_lt] at q; have q := of_decide_eq_false q; omega))
theorem WP.if_lt (K : Ok k l Z n0 rm bytes maxL y ret Q) {o : Int} {x : Int32} (tp fp : Nat) (hd : decode bytes pc = .ok (.ifCond .lt o, 3)) (ht : (pc : Int) + o = tp) (hf : pc + 3 = fp)
    (wt : x.toInt < 0 → WP k h cells slots tp ls st) (wf : 0 ≤ x.toInt → WP k h cells slots fp ls st) : WP k h cells slots pc ls (.int x :: st) :=
  WP.if0 K tp fp hd ht hf (fun q => wt (by rw [RoadKit.if0, h_lt] at q; exact of_decide_eq_true q)) (fun q => wf (by rw [RoadKit.if0, h_lt] at q; have q := of_decide_eq_false q; rw [show (0 : Int32).toInt = 0 from rfl] at q; omega))
theorem WP.ifl_lt (K : Ok k l Z n0 rm bytes maxL y ret Q) {o : Int} {x z : Int64} (tp fp : Nat) (hd : decode bytes pc = .ok (.ifCond .lt o, 3)) (ht : (pc : Int) + o = tp) (hf : pc + 3 = fp)
    (wt : x.toInt < z.toInt → WP k h cells slots tp ls st) (wf : z.toInt ≤ x.toInt → WP k h cells slots fp ls st) : WP k h cells slots pc ls (.int (XT.cmpL x z) :: st) := by
  refine WP.if0 K tp fp hd ht hf (fun q => ?_) (fun q => ?_)
  · refine wt ?_
    false_or_by_contra
    rename_i c
    rw [XT.ll_lt_f (by simp only [Int64.lt_iff_toInt_lt, ← Int64.toInt_inj]; omega)] at q; cases q
  · refine wf ?_
    false_or_by_contra
    rename_i c
    rw [XT.ll_lt_t (by simp only [Int64.lt_iff_toInt_lt, ← Int64.toInt_inj]; omega)] at q; cases q
theorem WP.icmp_ge (K : Ok k l Z n0 rm bytes maxL y ret Q) {o : Int} {x z : Int32} (tp fp : Nat) (hd : decode bytes pc = .ok (.if_icmp .ge o, 3)) (ht : (pc : Int) + o = tp) (hf : pc + 3 = fp)
    (wt : z.toInt ≤ x.toInt → WP k h cells slots tp ls st) (wf : x.toInt < z.toInt → WP k h cells slots fp ls st) : WP k h cells slots pc ls (.int z :: .int x :: st) :=
  WP.icmp K tp fp hd ht hf (fun q => wt (by rw [h_ge] at q; exact of_decide_eq_true q)) (fun q => wf (by rw [h_ge] at q; have q := of_decide_eq_false q; omega))
theorem WP.if_ge (K : Ok k l Z n0 rm bytes maxL y ret Q) {o : Int} {x : Int32} (tp fp : Nat) (hd : decode bytes pc = .ok (.ifCond .ge o, 3)) (ht : (pc : Int) + o = tp) (hf : pc + 3 = fp)
    (wt : 0 ≤ x.toInt → WP k h cells slots tp ls st) (wf : x.toInt < 0 → WP k h cells slots fp ls st) : WP k h cells slots pc ls (.int x :: st) :=
  WP.if0 K tp fp hd ht hf (fun q => wt (by rw [RoadKit.if0, h_ge] at q; exact of_decide_eq_true q)) (fun q => wf (by rw [RoadKit.if0, h_ge] at q; have q := of_decide_eq_false q; rw [show (0 : Int32).toInt = 0 from rfl] at q; omega))
theorem WP.ifl_ge (K : Ok k l Z n0 rm bytes maxL y ret Q) {o : Int} {x z : Int64} (tp fp : Nat) (hd : decode bytes pc = .ok (.ifCond .ge o, 3)) (ht : (pc : Int) + o = tp) (hf : pc + 3 = fp)
    (wt : z.toInt ≤ x.toInt → WP k h cells slots tp ls st) (wf : x.toInt < z.toInt → WP k h cells slots fp ls st) : WP k h cells slots pc ls (.int (XT.cmpL x z) :: st) := by
  refine WP.if0 K tp fp hd ht hf (fun q => ?_) (fun q => ?_)
  · refine wt ?_
    false_or_by_contra
    rename_i c
    rw [XT.ll_ge_f (by simp only [Int64.lt_iff_toInt_lt, ← Int64.toInt_inj]; omega)] at q; cases q
  · refine wf ?_
    false_or_by_contra
    rename_i c
    rw [XT.ll_ge_t (by simp only [Int64.lt_iff_toInt_lt, ← Int64.toInt_inj]; omega)] at q; cases q
theorem WP.icmp_gt (K : Ok k l Z n0 rm bytes maxL y ret Q) {o : Int} {x z : Int32} (tp fp : Nat) (hd : decode bytes pc = .ok (.if_icmp .gt o, 3)) (ht : (pc : Int) + o = tp) (hf : pc + 3 = fp)
    (wt : z.toInt < x.toInt → WP k h cells slots tp ls st) (wf : x.toInt ≤ z.toInt → WP k h cells slots fp ls st) : WP k h cells slots pc ls (.int z :: .int x :: st) :=
  WP.icmp K tp fp hd ht hf (fun q => wt (by rw [h_gt] at q; exact of_decide_eq_true q)) (fun q => wf (by rw [h_gt] at q; have q := of_decide_eq_false q; omega))
theorem WP.if_gt (K : Ok k l Z n0 rm bytes maxL y ret Q) {o : Int} {x : Int32} (tp fp : Nat) (hd : decode bytes pc = .ok (.ifCond .gt o, 3)) (ht : (pc : Int) + o = tp) (hf : pc + 3 = fp)
    (wt : 0 < x.toInt → WP k h cells slots tp ls st) (wf : x.toInt ≤ 0 → WP k h cells slots fp ls st) : WP k h cells slots pc ls (.int x :: st) :=
  WP.if0 K tp fp hd ht hf (fun q => wt (by rw [RoadKit.if0, h_gt] at q; exact of_decide_eq_true q)) (fun q => wf (by rw [RoadKit.if0, h_gt] at q; have q := of_decide_eq_false q; rw [show (0 : Int32).toInt = 0 from rfl] at q; omega))
theorem WP.ifl_gt (K : Ok k l Z n0 rm bytes maxL y ret Q) {o : Int} {x z : Int64} (tp fp : Nat) (hd : decode bytes pc = .ok (.ifCond .gt o, 3)) (ht : (pc : Int) + o = tp) (hf : pc + 3 = fp)
    (wt : z.toInt < x.toInt → WP k h cells slots tp ls st) (wf : x.toInt ≤ z.toInt → WP k h cells slots fp ls st) : WP k h cells slots pc ls (.int (XT.cmpL x z) :: st) := by
  refine WP.if0 K tp fp hd ht hf (fun q => ?_) (fun q => ?_)
  · refine wt ?_
    false_or_by_contra
    rename_i c
    rw [XT.ll_gt_f (by simp only [Int64.lt_iff_toInt_lt, ← Int64.toInt_inj]; omega)] at q; cases q
  · refine wf ?_
    false_or_by_contra
    rename_i c
    rw [XT.ll_gt_t (by simp only [Int64.lt_iff_toInt_lt, ← Int64.toInt_inj]; omega)] at q; cases q
theorem WP.icmp_le (K : Ok k l Z n0 rm bytes maxL y ret Q) {o : Int} {x z : Int32} (tp fp : Nat) (hd : decode bytes pc = .ok (.if_icmp .le o, 3)) (ht : (pc : Int) + o = tp) (hf : pc + 3 = fp)
    (wt : x.toInt ≤ z.toInt → WP k h cells slots tp ls st) (wf : z.toInt < x.toInt → WP k h cells slots fp ls st) : WP k h cells slots pc ls (.int z :: .int x :: st) :=
  WP.icmp K tp fp hd ht hf (fun q => wt (by rw [h_le] at q; exact of_decide_eq_true q)) (fun q => wf (by rw [h_le] at q; have q := of_decide_eq_false q; omega))
theorem WP.if_le (K : Ok k l Z n0 rm bytes maxL y ret Q) {o : Int} {x : Int32} (tp fp : Nat) (hd : decode bytes pc = .ok (.ifCond .le o, 3)) (ht : (pc : Int) + o = tp) (hf : pc + 3 = fp)
    (wt : x.toInt ≤ 0 → WP k h cells slots tp ls st) (wf : 0 < x.toInt → WP k h cells slots fp ls st) : WP k h cells slots pc ls (.int x :: st) :=
  WP.if0 K tp fp hd ht hf (fun q => wt (by rw [RoadKit.if0, h_le] at q; exact of_decide_eq_true q)) (fun q => wf (by rw [RoadKit.if0, h_le] at q; have q := of_decide_eq_false q; rw [show (0 : Int32).toInt = 0 from rfl] at q; omega))
theorem WP.ifl_le (K : Ok k l Z n0 rm bytes maxL y ret Q) {o : Int} {x z : Int64} (tp fp : Nat) (hd : decode bytes pc = .ok (.ifCond .le o, 3)) (ht : (pc : Int) + o = tp) (hf : pc + 3 = fp)
    (wt : x.toInt ≤ z.toInt → WP k h cells slots tp ls st) (wf : z.toInt < x.toInt → WP k h cells slots fp ls st) : WP k h cells slots pc ls (.int (XT.cmpL x z) :: st) := by
  refine WP.if0 K tp fp hd ht hf (fun q => ?_) (fun q => ?_)
  · refine wt ?_
    false_or_by_contra
    rename_i c
    rw [XT.ll_le_f (by simp only [Int64.lt_iff_toInt_lt, ← Int64.toInt_inj]; omega)] at q; cases q
  · refine wf ?_
    false_or_by_contra
    rename_i c
    rw [XT.ll_le_t (by simp only [Int64.lt_iff_toInt_lt, ← Int64.toInt_inj]; omega)] at q; cases q
theorem WP.icmp_eq (K : Ok k l Z n0 rm bytes maxL y ret Q) {o : Int} {x z : Int32} (tp fp : Nat) (hd : decode bytes pc = .ok (.if_icmp .eq o, 3)) (ht : (pc : Int) + o = tp) (hf : pc + 3 = fp)
    (wt : x.toInt = z.toInt → WP k h cells slots tp ls st) (wf : x.toInt ≠ z.toInt → WP k h cells slots fp ls st) : WP k h cells slots pc ls (.int z :: .int x :: st) :=
  WP.icmp K tp fp hd ht hf (fun q => wt (by rw [h_eq] at q; exact of_decide_eq_true q)) (fun q => wf (by rw [h_eq] at q; have q := of_decide_eq_false q; omega))
theorem WP.if_eq (K : Ok k l Z n0 rm bytes maxL y ret Q) {o : Int} {x : Int32} (tp fp : Nat) (hd : decode bytes pc = .ok (.ifCond .eq o, 3)) (ht : (pc : Int) + o = tp) (hf : pc + 3 = fp)
    (wt : x.toInt = 0 → WP k h cells slots tp ls st) (wf : x.toInt ≠ 0 → WP k h cells slots fp ls st) : WP k h cells slots pc ls (.int x :: st) :=
  WP.if0 K tp fp hd ht hf (fun q => wt (by rw [RoadKit.if0, h_eq] at q; exact of_decide_eq_true q)) (fun q => wf (by rw [RoadKit.if0, h_eq] at q; have q := of_decide_eq_false q; rw [show (0 : Int32).toInt = 0 from rfl] at q; omega))
theorem WP.ifl_eq (K : Ok k l Z n0 rm bytes maxL y ret Q) {o : Int} {x z : Int64} (tp fp : Nat) (hd : decode bytes pc = .ok (.ifCond .eq o, 3)) (ht : (pc : Int) + o = tp) (hf : pc + 3 = fp)
    (wt : x.toInt = z.toInt → WP k h cells slots tp ls st) (wf : x.toInt ≠ z.toInt → WP k h cells slots fp ls st) : WP k h cells slots pc ls (.int (XT.cmpL x z) :: st) := by
  refine WP.if0 K tp fp hd ht hf (fun q => ?_) (fun q => ?_)
  · refine wt ?_
    false_or_by_contra
    rename_i c
    rw [XT.ll_eq_f (by simp only [Int64.lt_iff_toInt_lt, ← Int64.toInt_inj]; omega)] at q; cases q
  · refine wf ?_
    false_or_by_contra
    rename_i c
    rw [XT.ll_eq_t (by simp only [Int64.lt_iff_toInt_lt, ← Int64.toInt_inj]; omega)] at q; cases q
theorem WP.icmp_ne (K : Ok k l Z n0 rm bytes maxL y ret Q) {o : Int} {x z : Int32} (tp fp : Nat) (hd : decode bytes pc = .ok (.if_icmp .ne o, 3)) (ht : (pc : Int) + o = tp) (hf : pc + 3 = fp)
    (wt : x.toInt ≠ z.toInt → WP k h cells slots tp ls st) (wf : x.toInt = z.toInt → WP k h cells slots fp ls st) : WP k h cells slots pc ls (.int z :: .int x :: st) :=
  WP.icmp K tp fp hd ht hf (fun q => wt (by rw [h_ne] at q; exact of_decide_eq_true q)) (fun q => wf (by rw [h_ne] at q; have q := of_decide_eq_false q; omega))
theorem WP.if_ne (K : Ok k l Z n0 rm bytes maxL y ret Q) {o : Int} {x : Int32} (tp fp : Nat) (hd : decode bytes pc = .ok (.ifCond .ne o, 3)) (ht : (pc : Int) + o = tp) (hf : pc + 3 = fp)
    (wt : x.toInt ≠ 0 → WP k h cells slots tp ls st) (wf : x.toInt = 0 → WP k h cells slots fp ls st) : WP k h cells slots pc ls (.int x :: st) :=
  WP.if0 K tp fp hd ht hf (fun q => wt (by rw [RoadKit.if0, h_ne] at q; exact of_decide_eq_true q)) (fun q => wf (by rw [RoadKit.if0, h_ne] at q; have q := of_decide_eq_false q; rw [show (0 : Int32).toInt = 0 from rfl] at q; omega))
theorem WP.ifl_ne (K : Ok k l Z n0 rm bytes maxL y ret Q) {o : Int} {x z : Int64} (tp fp : Nat) (hd : decode bytes pc = .ok (.ifCond .ne o, 3)) (ht : (pc : Int) + o = tp) (hf : pc + 3 = fp)
    (wt : x.toInt ≠ z.toInt → WP k h cells slots tp ls st) (wf : x.toInt = z.toInt → WP k h cells slots fp ls st) : WP k h cells slots pc ls (.int (XT.cmpL x z) :: st) := by
  refine WP.if0 K tp fp hd ht hf (fun q => ?_) (fun q => ?_)
  · refine wt ?_
    false_or_by_contra
    rename_i c
    rw [XT.ll_ne_f (by simp only [Int64.lt_iff_toInt_lt, ← Int64.toInt_inj]; omega)] at q; cases q
  · refine wf ?_
    false_or_by_contra
    rename_i c
    rw [XT.ll_ne_t (by simp only [Int64.lt_iff_toInt_lt, ← Int64.toInt_inj]; omega)] at q; cases q
theorem WP.ifnull_n (K : Ok k l Z n0 rm bytes maxL y ret Q) {o : Int} (tp : Nat) (hd : decode bytes pc = .ok (.ifnull o, 3)) (ht : (pc : Int) + o = tp) (w : WP k h cells slots tp ls st) : WP k h cells slots pc ls (.null :: st) :=
  w.plain fun T A t q => XS.ifnullYes A K.hx rfl (pc0 := pc) (pc' := tp) rfl (K.dec hd) rfl (by omega) (by omega) q
theorem WP.ifnull_r (K : Ok k l Z n0 rm bytes maxL y ret Q) {o : Int} {b : Addr} (fp : Nat) (hd : decode bytes pc = .ok (.ifnull o, 3)) (hf : pc + 3 = fp) (w : WP k h cells slots fp ls st) : WP k h cells slots pc ls (.ref b :: st) := by
  subst hf; exact w.plain fun T A t q => XS.ifnullNo A K.hx rfl (K.dec hd) rfl q
theorem WP.ifnonnull_r (K : Ok k l Z n0 rm bytes maxL y ret Q) {o : Int} {b : Addr} (tp : Nat) (hd : decode bytes pc = .ok (.ifnonnull o, 3)) (ht : (pc : Int) + o = tp) (w : WP k h cells slots tp ls st) : WP k h cells slots pc ls (.ref b :: st) :=
  w.plain fun T A t q => XT.ifnonnullYes A K.hx rfl (pc0 := pc) (pc' := tp) rfl (K.dec hd) rfl (by omega) (by omega) q
theorem WP.ifnonnull_n (K : Ok k l Z n0 rm bytes maxL y ret Q) {o : Int} (fp : Nat) (hd : decode bytes pc = .ok (.ifnonnull o, 3)) (hf : pc + 3 = fp) (w : WP k h cells slots fp ls st) : WP k h cells slots pc ls (.null :: st) := by
  subst hf; exact w.plain fun T A t q => XT.ifnonnullNo A K.hx rfl (K.dec hd) rfl q
theorem WP.acmp_eq (K : Ok k l Z n0 rm bytes maxL y ret Q) {o : Int} {x z : Value} (tp fp : Nat) (hd : decode bytes pc = .ok (.if_acmp .eq o, 3)) (ht : (pc : Int) + o = tp) (hf : pc + 3 = fp) (hx : x.isRef = true) (hz : z.isRef = true)
    (wt : x = z → WP k h cells slots tp ls st) (wf : x ≠ z → WP k h cells slots fp ls st) : WP k h cells slots pc ls (z :: x :: st) := by
  subst hf
  by_cases c : x = z
  · exact (wt c).plain fun T A t q => XT.acmpYes A K.hx rfl (pc0 := pc) (pc' := tp) rfl (K.dec hd) rfl hx hz (XT.aa_eq_t c) (by omega) (by omega) q
  · exact (wf c).plain fun T A t q => XT.acmpNo A K.hx rfl (K.dec hd) rfl hx hz (XT.aa_eq_f c) q
theorem WP.acmp_ne (K : Ok k l Z n0 rm bytes maxL y ret Q) {o : Int} {x z : Value} (tp fp : Nat) (hd : decode bytes pc = .ok (.if_acmp .ne o, 3)) (ht : (pc : Int) + o = tp) (hf : pc + 3 = fp) (hx : x.isRef = true) (hz : z.isRef = true)
    (wt : x ≠ z → WP k h cells slots tp ls st) (wf : x = z → WP k h cells slots fp ls st) : WP k h cells slots pc ls (z :: x :: st) := by
  subst hf
  by_cases c : x = z
  · exact (wf c).plain fun T A t q => XT.acmpNo A K.hx rfl (K.dec hd) rfl hx hz (XT.aa_ne_f c) q
  · exact (wt c).plain fun T A t q => XT.acmpYes A K.hx rfl (pc0 := pc) (pc' := tp) rfl (K.dec hd) rfl hx hz (XT.aa_ne_t c) (by omega) (by omega) q
theorem WP.tsw (K : Ok k l Z n0 rm bytes maxL y ret Q) {d lo hi : Int} {offs : Array Int} {len : Nat} {i : Int32} (dp : Nat) (hd : decode bytes pc = .ok (.tableswitch d lo hi offs, len)) (hdp : (pc : Int) + d = dp)
    (win : ∀ j o, i.toInt = lo + (j : Nat) → i.toInt ≤ hi → offs[j]? = some o → 0 ≤ (pc : Int) + o ∧ WP k h cells slots ((pc : Int) + o).toNat ls st) (hsz : hi - lo < offs.size) (wout : i.toInt < lo ∨ hi < i.toInt → WP k h cells slots dp ls st) : WP k h cells slots pc ls (.int i :: st) := by
  by_cases c : i.toInt < lo ∨ i.toInt > hi
  · exact (wout c).plain fun T A t q => XS.tswOut A K.hx rfl (pc0 := pc) (pc' := dp) rfl (K.dec hd) rfl c (by omega) (by omega) q
  · have hj : (i.toInt - lo).toNat < offs.size := by omega
    obtain ⟨h0, w⟩ := win (i.toInt - lo).toNat _ (by omega) (by omega) (Array.getElem?_eq_getElem hj)
    exact w.plain fun T A t q => XS.tswIn A K.hx rfl (pc0 := pc) rfl (K.dec hd) rfl c (Array.getElem?_eq_getElem hj) h0 rfl q
theorem WP.ldcI (K : Ok k l Z n0 rm bytes maxL y ret Q) {a0 : Array Value} {i : Nat} {v : Int32} (pc' : Nat) (hw : (Jvm.Cond.constant y.cls i v).before a0 Z = true) (hd : decode bytes pc = .ok (.ldc i, 2)) (hp : pc + 2 = pc') (w : WP k h cells slots pc' ls (.int v :: st)) : WP k h cells slots pc ls st := by
  subst hp; exact fun T locs X e N => End.back (fun t q => Stand.ldcI X K.hx K.hown (mvT K.hZ hw) rfl (K.dec hd) q) (w T locs X e N)
theorem WP.ldcWI (K : Ok k l Z n0 rm bytes maxL y ret Q) {a0 : Array Value} {i : Nat} {v : Int32} (pc' : Nat) (hw : (Jvm.Cond.constant y.cls i v).before a0 Z = true) (hd : decode bytes pc = .ok (.ldc_w i, 3)) (hp : pc + 3 = pc') (w : WP k h cells slots pc' ls (.int v :: st)) : WP k h cells slots pc ls st := by
  subst hp; exact fun T locs X e N => End.back (fun t q => Stand.ldcWI X K.hx K.hown (mvT K.hZ hw) rfl (K.dec hd) q) (w T locs X e N)
theorem WP.ldc2J (K : Ok k l Z n0 rm bytes maxL y ret Q) {a0 : Array Value} {i : Nat} {v : Int64} (pc' : Nat) (hw : (Jvm.Cond.constantLong y.cls i v).before a0 Z = true) (hd : decode bytes pc = .ok (.ldc2_w i, 3)) (hp : pc + 3 = pc') (w : WP k h cells slots pc' ls (.long v :: st)) : WP k h cells slots pc ls st := by
  subst hp; exact fun T locs X e N => End.back (fun t q => Stand.ldc2J X K.hx K.hown (mvT K.hZ hw) rfl (K.dec hd) q) (w T locs X e N)
theorem WP.leave (K : Ok k l Z n0 rm bytes maxL y ret Q) (v : Option Value) (hv : k.meth.sig.returnType = none → v = none) (hq : Q v h) (hc : cells ≤ rm.cells) (hs : slots ≤ rm.slots)
    (st' : ∀ (T : State) (locs : List Loc), k.St T locs cells slots → ∀ fs, (∀ (f : JFrame) (acts : List Action), f.method = k.m → f.locked = none → f.entered = [] → (doReturn k.e (T.setTop f) acts v).1 = T.setFrames fs) → Steps k.p.tables k.e k.below (T.setTop (mkF k.m pc ls.toArray st)) (T.setFrames fs)) : WP k h cells slots pc ls st := by
  intro T locs X e N
  obtain ⟨fs, hr, hrun, hended, hW, hsame⟩ := Stand.leave X (v := v) hv K.hlk
  have hq' : Q v (T.setFrames fs).heap := by show Q v T.heap; rw [e]; exact hq
  refine ⟨_, _, st' T locs X fs hr, hrun, hended, v, locs, rfl, ⟨by rw [K.hQ]; exact hq', N⟩, K.hfin v _ locs hq' ⟨⟨_, rfl⟩, hW, hsame.mono (by rw [K.hR]; exact hc) (by rw [K.hR]; exact hs)⟩⟩
theorem WP.retV (K : Ok k l Z n0 rm bytes maxL y ret Q) (hr : ret = none) (hd : decode bytes pc = .ok (.return_, 1)) (hq : Q none h) (hc : cells ≤ rm.cells) (hs : slots ≤ rm.slots) : WP k h cells slots pc ls [] :=
  WP.leave K none (fun _ => rfl) hq hc hs fun T locs X fs hl => Stand.returnOut X K.hx (K.hret.trans hr) (K.dec hd) hl
theorem WP.iret (K : Ok k l Z n0 rm bytes maxL y ret Q) {z : Int32} {t : FieldType} (hr : ret = some t) (ht : t = .int ∨ t = .boolean ∨ t = .byte ∨ t = .char ∨ t = .short) (hn : narrow t (.int z) = .int z) (hd : decode bytes pc = .ok (.ireturn, 1)) (hq : Q (some (.int z)) h) (hc : cells ≤ rm.cells) (hs : slots ≤ rm.slots) : WP k h cells slots pc ls (.int z :: st) :=
  WP.leave K (some (.int z)) (fun q => by rw [K.hret, hr] at q; cases q) hq hc hs fun T locs X fs hl => RoadKit.retOut X K.hx (K.hret.trans hr) hn (Or.inl ⟨rfl, ht, z, rfl⟩) (K.dec hd) hl
theorem WP.lret (K : Ok k l Z n0 rm bytes maxL y ret Q) {z : Int64} (hr : ret = some .long) (hd : decode bytes pc = .ok (.lreturn, 1)) (hq : Q (some (.long z)) h) (hc : cells ≤ rm.cells) (hs : slots ≤ rm.slots) : WP k h cells slots pc ls (.long z :: st) :=
  WP.leave K (some (.long z)) (fun q => by rw [K.hret, hr] at q; cases q) hq hc hs fun T locs X fs hl => RoadKit.retOut X K.hx (K.hret.trans hr) rfl (Or.inr (Or.inl ⟨rfl, rfl, z, rfl⟩)) (K.dec hd) hl
theorem WP.aret (K : Ok k l Z n0 rm bytes maxL y ret Q) {v : Value} {t : FieldType} (hr : ret = some t) (ht : t.isReference = true) (hn : narrow t v = v) (hv : v.isRef = true) (hd : decode bytes pc = .ok (.areturn, 1)) (hq : Q (some v) h) (hc : cells ≤ rm.cells) (hs : slots ≤ rm.slots) : WP k h cells slots pc ls (v :: st) :=
  WP.leave K (some v) (fun q => by rw [K.hret, hr] at q; cases q) hq hc hs fun T locs X fs hl => RoadKit.retOut X K.hx (K.hret.trans hr) hn (Or.inr (Or.inr (Or.inr (Or.inr ⟨rfl, ht, hv⟩)))) (K.dec hd) hl
theorem nar_bit {z : Int32} (q : z = 0 ∨ z = 1) : narrow .boolean (.int z) = .int z := by rcases q with rfl | rfl <;> rfl
end Plain
section HeapSteps
variable {k : Cx} {l : Launch} {Z : State} {n0 : Nat} {rm : Room} {bytes : ByteArray} {maxL : Nat} {y : MethodName} {ret : Option FieldType} {Q : Option Value → Heap → Prop} {h h' : Heap} {cells slots pc : Nat} {ls : List Slot} {st : List Value} {a0 : Array Value} {a b : Addr}
theorem ne_addr {a b : Nat} (h : a ≠ b) : @Ne Addr a b := h
theorem nm0 {a : Nat} (h : (0 : Nat) = 0) : a ∉ ([] : List Addr) := List.not_mem_nil
theorem ks0 {n : Nat} {ws : List Addr} : ∀ x ∈ ([] : List Addr), x ∈ ws ∨ n ≤ x := fun x hx => absurd hx List.not_mem_nil
theorem nm1 {a b : Nat} (h : a ≠ b) : a ∉ ([b] : List Addr) := by intro q; exact h (List.mem_singleton.mp q)
theorem nm2 {a b c : Nat} (h : a ≠ b ∧ a ≠ c) : a ∉ ([b, c] : List Addr) := by
  intro q
  rcases List.mem_cons.mp q with q | q
  · exact h.1 q
  · exact h.2 (List.mem_singleton.mp q)
theorem ks1 {b n : Nat} {ws : List Addr} (h : b ∈ ws ∨ n ≤ b) : ∀ x ∈ ([b] : List Addr), x ∈ ws ∨ n ≤ x := fun x hx => by cases List.mem_singleton.mp hx; exact h
theorem ks2 {b c n : Nat} {ws : List Addr} (h : b ∈ ws ∨ n ≤ b) (h' : c ∈ ws ∨ n ≤ c) : ∀ x ∈ ([b, c] : List Addr), x ∈ ws ∨ n ≤ x := fun x hx => by
  rcases List.mem_cons.mp hx with q | q
  · rw [q]; exact h
  · cases List.mem_singleton.mp q; exact h'
theorem ext_keep (E : Ext h h') (ws : List Addr) : Keep h h' ws := (Keep.refl h ws).ext E
theorem keep_sub {ws ws' : List Addr} (K : Keep h h' ws) (q : ∀ x ∈ ws, x ∈ ws') : Keep h h' ws' := ⟨K.1, fun x c e r => K.2.1 x c e fun z => r (q x z), K.2.2⟩
theorem keep_trans {h'' : Heap} {ws : List Addr} (K : Keep h h' ws) (K' : Keep h' h'' ws) : Keep h h'' ws := K.trans K' fun x hx => Or.inl hx
theorem WP.getfield (K : Ok k l Z n0 rm bytes maxL y ret Q) {i : Nat} {R0 O n d host : String} {v : Value} (pc' : Nat) (hw : (Jvm.Cond.fieldLink y.cls i R0 n d).before a0 Z = true ∨ (Jvm.Cond.fieldLinkNest y.cls i R0 n d host).before a0 Z = true) (via : Via Z R0 O n d) (F : Fld Z h a O n d v) (hd : decode bytes pc = .ok (.getfield i, 3)) (hp : pc + 3 = pc')
    (w : WP k h cells slots pc' ls (v :: st)) : WP k h cells slots pc ls (.ref a :: st) := by
  subst hp
  intro T locs X e N
  obtain ⟨T', X', e', stp⟩ := getF X K.hx K.hZ K.hown hw via e F (g := mkF k.m pc ls.toArray (.ref a :: st)) rfl rfl (K.dec hd)
  exact End.back stp (w T' locs X' e' N)
theorem WP.getstatic (K : Ok k l Z n0 rm bytes maxL y ret Q) {i : Nat} {R0 O n d : String} {v : Value} (pc' : Nat) (hw : (Jvm.Cond.fieldLink y.cls i R0 n d).before a0 Z = true) (via : Via Z R0 O n d) (F : Sta Z h O n d v) (hd : decode bytes pc = .ok (.getstatic i, 3)) (hp : pc + 3 = pc')
    (w : WP k h cells slots pc' ls (v :: st)) : WP k h cells slots pc ls st := by
  subst hp
  intro T locs X e N
  obtain ⟨T', X', e', stp⟩ := getS X K.hx K.hZ K.hown (host := "") hw via e F (g := mkF k.m pc ls.toArray st) rfl (K.dec hd)
  exact End.back stp (w T' locs X' e' N)
theorem WP.putfield (K : Ok k l Z n0 rm bytes maxL y ret Q) {i kk : Nat} {R0 O n d host C : String} {v old : Value} {ty : FieldType} (pc' : Nat) (hw : (Jvm.Cond.fieldLink y.cls i R0 n d).before a0 Z = true ∨ (Jvm.Cond.fieldLinkNest y.cls i R0 n d host).before a0 Z = true) (via : Via Z R0 O n d) (F : Fld Z h a O n d old) (E : Exa Z h a C)
    (L : (Jvm.Cond.lays C O n d).before a0 Z = true ∨ ((Jvm.Cond.laysFinal C O n d).before a0 Z = true ∧ y.cls = O ∧ y.name = "<init>")) (wi : (Jvm.Cond.instantiable C kk).before a0 Z = true)
    (hty : parseFieldDescriptor d = some ty) (hn : narrow ty v = v) (hf : fits ty v = true) (hd : decode bytes pc = .ok (.putfield i, 3)) (hp : pc + 3 = pc') (ha : n0 ≤ a)
    (w : ∀ h', Wr h h' a (RoadKit.slotOf Z O n d) v → WP k h' cells slots pc' ls st) : WP k h cells slots pc ls (v :: .ref a :: st) := by
  subst hp
  intro T locs X e N
  obtain ⟨T', h', X', e', W', stp⟩ := putF X K.hx K.hZ K.hown hw via e F E (L.imp id fun q => ⟨q.1, q.2.1, by rw [K.hnm]; exact q.2.2⟩) wi hty hn hf (g := mkF k.m pc ls.toArray (v :: .ref a :: st)) rfl rfl (K.dec hd)
  exact End.back stp (w h' W' T' _ X' e' (Fr.snoc X' N (by rw [K.hn0]; exact ha)))
theorem WP.new (K : Ok k l Z n0 rm bytes maxL y ret Q) {i n : Nat} {C : String} (pc' cells' slots' : Nat) (h1 : (Jvm.Cond.classLink y.cls i C).before a0 Z = true) (h2 : (Jvm.Cond.instantiable C n).before a0 Z = true) (h3 : (Jvm.Cond.initialized C).before a0 Z = true) (hd : decode bytes pc = .ok (.new i, 3)) (hp : pc + 3 = pc')
    (hc : cells + 1 = cells') (hs : slots + n = slots') (hc' : cells' ≤ rm.cells) (hs' : slots' ≤ rm.slots)
    (w : ∀ h' a, a = h.size → Ext h h' → Exa Z h' a C → (∀ {O nm d : String} {ty : FieldType}, Laid Z a0 C O nm d → parseFieldDescriptor d = some ty → Fld Z h' a O nm d (defaultValue ty)) → WP k h' cells' slots' pc' ls (.ref a :: st)) : WP k h cells slots pc ls st := by
  subst hp hc hs
  intro T locs X e N
  obtain ⟨T', h', X', e', E', A', D', -, stp⟩ := newO X K.hx K.hZ K.hown h1 h2 h3 e (g := mkF k.m pc ls.toArray st) rfl (K.dec hd) (by rw [K.hR]; exact hc') (by rw [K.hR]; exact hs')
  exact End.back stp (w h' _ rfl E' A' D' T' locs X' e' N)
/-- Object.<init> -/
theorem WP.initO (K : Ok k l Z n0 rm bytes maxL y ret Q) {i : Nat} (pc' W : Nat) (h1 : (Jvm.Cond.methodLink y.cls i Lib.objectInit).before a0 Z = true) (h2 : (Jvm.Cond.instanceMethod Lib.objectInit).before a0 Z = true) (h3 : (Jvm.Cond.code Lib.objectInit ⟨#[0xb1]⟩ 1 none).before a0 Z = true) (hd : decode bytes pc = .ok (.invokespecial i, 3)) (hp : pc + 3 = pc')
    (hsz : ls.length = maxL) (hf : 1 ≤ rm.frames) (hW : (st.map fun v => v.category).sum ≤ W) (hl : W + 12 ≤ rm.locals) (w : WP k h cells slots pc' ls st) : WP k h cells slots pc ls (.ref a :: st) := by
  subst hp
  intro T locs X e N
  obtain ⟨T', X', e', stp⟩ := RoadKit.initO X K.hx K.hZ K.hown h1 h2 h3 e (g := mkF k.m pc ls.toArray (.ref a :: st)) rfl (by rw [K.hml]; simpa using hsz) rfl (K.dec hd) (by rw [K.hR]; exact hf) (W := W) (by show 2 * 0 + _ ≤ _; omega) (by rw [K.hR]; exact hl)
  exact End.back stp (w T' locs X' e' N)
/-! arrays -/
def ArV (Z : State) (h : Heap) (a : Addr) (ty : FieldType) (vs : List Value) : Prop := ∃ c : Cell, Arr Z h a c ty ∧ c.slots.toList = vs ∧ vs.length < 2 ^ 31 ∧ ∀ v ∈ vs, fits ty v = true
def ArI (Z : State) (h : Heap) (a : Addr) (xs : List Int32) : Prop := ArV Z h a .int (xs.map Value.int)
def ArJ (Z : State) (h : Heap) (a : Addr) (xs : List Int64) : Prop := ArV Z h a .long (xs.map Value.long)
def ArB (Z : State) (h : Heap) (a : Addr) (xs : List Int8) : Prop := ArV Z h a .byte (xs.map fun x => Value.int x.toInt32)
variable {ty : FieldType} {vs : List Value}
theorem ArV.lt (A : ArV Z h a ty vs) : a < h.size := by obtain ⟨c, A, -⟩ := A; exact A.lt
theorem ArV.keep {ws : List Addr} (A : ArV Z h a ty vs) (K : Keep h h' ws) (q : a ∉ ws) : ArV Z h' a ty vs := by
  obtain ⟨c, A, r⟩ := A
  exact ⟨c, ⟨K.2.1 a c A.1 q, A.2⟩, r⟩
theorem ArV.ext (A : ArV Z h a ty vs) (E : Ext h h') : ArV Z h' a ty vs := by
  obtain ⟨c, A, r⟩ := A
  exact ⟨c, A.ext E, r⟩
theorem ArV.set {i : Nat} {v : Value} (A : ArV Z h a ty vs) (W : Wr h h' a i v) (hf : fits ty v = true) : ArV Z h' a ty (vs.set i v) := by
  obtain ⟨c, A, q1, q2, q3⟩ := A
  refine ⟨c.setSlot i v, A.same W, ?_, by simpa using q2, fun u hu => ?_⟩
  · simp [Cell.setSlot, q1]
  · rcases List.mem_or_eq_of_mem_set hu with z | rfl
    · exact q3 u z
    · exact hf
theorem ArV.other {i : Nat} {v : Value} (A : ArV Z h a ty vs) (W : Wr h h' b i v) (q : a ≠ b) : ArV Z h' a ty vs := by
  obtain ⟨c, A, r⟩ := A
  exact ⟨c, A.other W q, r⟩
theorem ArV.new {cA : ClassId} {n : Int32} {m : Nat} (A : Arr Z h a (newA cA ty n) ty) (hn : n.toInt = (m : Nat)) (hf : fits ty (defaultValue ty) = true) : ArV Z h a ty (List.replicate m (defaultValue ty)) := by
  have e : n.toNatClampNeg = m := by simp only [Int32.toNatClampNeg]; omega
  refine ⟨_, A, ?_, ?_, fun v hv => ?_⟩
  · simp [newA, e]
  · have := n.toInt_lt; simp; omega
  · rw [List.eq_of_mem_replicate hv]; exact hf
theorem idx_ok {j : Int32} {i n : Nat} (hj : j.toInt = (i : Nat)) (hi : i < n) : ¬ (j < 0 ∨ n ≤ j.toNatClampNeg) ∧ j.toNatClampNeg = i := by
  have e : j.toNatClampNeg = i := by simp only [Int32.toNatClampNeg]; omega
  refine ⟨?_, e⟩
  rw [e, Int32.lt_iff_toInt_lt, show (0 : Int32).toInt = 0 from rfl]; omega
theorem size_eq {z : Int32} {n : Nat} (hz : z.toInt = (n : Nat)) : n.toInt32 = z := by
  have e : n = z.toNatClampNeg := by simp only [Int32.toNatClampNeg]; omega
  have := (back32 (n := z) (by rw [Int32.lt_iff_toInt_lt, show (0 : Int32).toInt = 0 from rfl]; omega)).1
  rw [← e] at this; exact this
theorem ArV.parts {i : Nat} {v : Value} (A : ArV Z h a ty vs) (hv : vs[i]? = some v) : ∃ c : Cell, Arr Z h a c ty ∧ i < c.slots.size ∧ c.slots[i]? = some v := by
  obtain ⟨c, A, q1, -⟩ := A
  have : i < vs.length := (List.getElem?_eq_some_iff.mp hv).1
  refine ⟨c, A, ?_, ?_⟩
  · rw [← q1] at this; simpa using this
  · rw [← q1] at hv; simpa using hv
theorem WP.arraylength (K : Ok k l Z n0 rm bytes maxL y ret Q) (z : Int32) (pc' : Nat) (A : ArV Z h a ty vs) (hz : z.toInt = (vs.length : Nat)) (hd : decode bytes pc = .ok (.arraylength, 1)) (hp : pc + 1 = pc') (w : WP k h cells slots pc' ls (.int z :: st)) : WP k h cells slots pc ls (.ref a :: st) := by
  subst hp
  intro T locs X e N
  obtain ⟨c, A, q1, -⟩ := A
  have es : c.slots.size.toInt32 = z := size_eq (by rw [hz, ← q1]; simp)
  refine End.back (fun t q => ?_) (w T locs X e N)
  exact Stand.arraylength X K.hx (cell := c) (by rw [e]; exact A.1) (State.isArrayOf_alike K.hZ.alike A.2.1) (g := mkF k.m pc ls.toArray (.ref a :: st)) rfl rfl (K.dec hd) _ (by rw [es]; exact q)
theorem WP.iaload (K : Ok k l Z n0 rm bytes maxL y ret Q) {xs : List Int32} {j x : Int32} (pc' i : Nat) (A : ArI Z h a xs) (hj : j.toInt = (i : Nat)) (hx : xs[i]? = some x) (hd : decode bytes pc = .ok (.iaload, 1)) (hp : pc + 1 = pc') (w : WP k h cells slots pc' ls (.int x :: st)) : WP k h cells slots pc ls (.int j :: .ref a :: st) := by
  subst hp
  intro T locs X e N
  obtain ⟨c, A, q1, q2⟩ := ArV.parts A (i := i) (v := .int x) (by simp [hx])
  obtain ⟨r1, r2⟩ := idx_ok hj q1
  refine End.back (fun t q => ?_) (w T locs X e N)
  exact Stand.iaload X K.hx (j := j) (v := .int x) (by rw [e]; exact A.1) (State.isArrayOf_alike K.hZ.alike A.2.1) A.2.2 r1 (by rw [r2]; exact q2) (g := mkF k.m pc ls.toArray (.int j :: .ref a :: st)) rfl rfl (K.dec hd) _ q
theorem WP.laload (K : Ok k l Z n0 rm bytes maxL y ret Q) {xs : List Int64} {j : Int32} {x : Int64} (pc' i : Nat) (A : ArJ Z h a xs) (hj : j.toInt = (i : Nat)) (hx : xs[i]? = some x) (hd : decode bytes pc = .ok (.laload, 1)) (hp : pc + 1 = pc') (w : WP k h cells slots pc' ls (.long x :: st)) : WP k h cells slots pc ls (.int j :: .ref a :: st) := by
  subst hp
  intro T locs X e N
  obtain ⟨c, A, q1, q2⟩ := ArV.parts A (i := i) (v := .long x) (by simp [hx])
  obtain ⟨r1, r2⟩ := idx_ok hj q1
  refine End.back (fun t q => ?_) (w T locs X e N)
  exact Stand.laload X K.hx (j := j) (v := .long x) (by rw [e]; exact A.1) (State.isArrayOf_alike K.hZ.alike A.2.1) A.2.2 r1 (by rw [r2]; exact q2) (g := mkF k.m pc ls.toArray (.int j :: .ref a :: st)) rfl rfl (K.dec hd) _ q
theorem WP.baload (K : Ok k l Z n0 rm bytes maxL y ret Q) {xs : List Int8} {j : Int32} {x : Int8} (pc' i : Nat) (A : ArB Z h a xs) (hj : j.toInt = (i : Nat)) (hx : xs[i]? = some x) (hd : decode bytes pc = .ok (.baload, 1)) (hp : pc + 1 = pc') (w : WP k h cells slots pc' ls (.int x.toInt32 :: st)) : WP k h cells slots pc ls (.int j :: .ref a :: st) := by
  subst hp
  intro T locs X e N
  obtain ⟨c, A, q1, q2⟩ := ArV.parts A (i := i) (v := .int x.toInt32) (by simp [hx])
  obtain ⟨r1, r2⟩ := idx_ok hj q1
  refine End.back (fun t q => ?_) (w T locs X e N)
  exact Stand.baloadBytes X K.hx (j := j) (v := .int x.toInt32) (by rw [e]; exact A.1) (State.isArrayOf_alike K.hZ.alike A.2.1) A.2.2 r1 (by rw [r2]; exact q2) (g := mkF k.m pc ls.toArray (.int j :: .ref a :: st)) rfl rfl (K.dec hd) _ q
theorem WP.aaload (K : Ok k l Z n0 rm bytes maxL y ret Q) {j : Int32} {x : Value} (pc' i : Nat) (A : ArV Z h a ty vs) (hty : ty.isReference = true) (hj : j.toInt = (i : Nat)) (hx : vs[i]? = some x) (hd : decode bytes pc = .ok (.aaload, 1)) (hp : pc + 1 = pc') (w : WP k h cells slots pc' ls (x :: st)) : WP k h cells slots pc ls (.int j :: .ref a :: st) := by
  subst hp
  intro T locs X e N
  obtain ⟨c, A, q1, q2⟩ := ArV.parts A (i := i) hx
  obtain ⟨r1, r2⟩ := idx_ok hj q1
  refine End.back (fun t q => ?_) (w T locs X e N)
  exact Stand.aaload X K.hx (j := j) (v := x) (by rw [e]; exact A.1) (State.isArrayOf_alike K.hZ.alike A.2.1) hty A.2.2 r1 (by rw [r2]; exact q2) (g := mkF k.m pc ls.toArray (.int j :: .ref a :: st)) rfl rfl (K.dec hd) _ q
theorem WP.iastore (K : Ok k l Z n0 rm bytes maxL y ret Q) {xs : List Int32} {j x : Int32} (pc' i : Nat) (A : ArI Z h a xs) (hj : j.toInt = (i : Nat)) (hi : i < xs.length) (hd : decode bytes pc = .ok (.iastore, 1)) (hp : pc + 1 = pc') (ha : n0 ≤ a)
    (w : ∀ h', Keep h h' [a] → ArI Z h' a (xs.set i x) → WP k h' cells slots pc' ls st) : WP k h cells slots pc ls (.int x :: .int j :: .ref a :: st) := by
  subst hp
  intro T locs X e N
  have A0 := A
  obtain ⟨c, A', q1, -⟩ := A
  obtain ⟨r1, r2⟩ := idx_ok hj (show i < c.slots.size by have := congrArg List.length q1; simp at this; omega)
  obtain ⟨T', h', X', e', W', stp⟩ := stI X K.hx K.hZ e A' r1 (x := x) (g := mkF k.m pc ls.toArray (.int x :: .int j :: .ref a :: st)) rfl rfl (K.dec hd)
  rw [r2] at W'
  have A2 := ArV.set A0 W' rfl
  rw [← List.map_set] at A2
  exact End.back stp (w h' (Keep.of_wr W') A2 T' _ X' e' (Fr.snoc X' N (by rw [K.hn0]; exact ha)))
theorem WP.lastore (K : Ok k l Z n0 rm bytes maxL y ret Q) {xs : List Int64} {j : Int32} {x : Int64} (pc' i : Nat) (A : ArJ Z h a xs) (hj : j.toInt = (i : Nat)) (hi : i < xs.length) (hd : decode bytes pc = .ok (.lastore, 1)) (hp : pc + 1 = pc') (ha : n0 ≤ a)
    (w : ∀ h', Keep h h' [a] → ArJ Z h' a (xs.set i x) → WP k h' cells slots pc' ls st) : WP k h cells slots pc ls (.long x :: .int j :: .ref a :: st) := by
  subst hp
  intro T locs X e N
  have A0 := A
  obtain ⟨c, A', q1, -⟩ := A
  obtain ⟨r1, r2⟩ := idx_ok hj (show i < c.slots.size by have := congrArg List.length q1; simp at this; omega)
  obtain ⟨T', h', X', e', W', stp⟩ := stJ X K.hx K.hZ e A' r1 (x := x) (g := mkF k.m pc ls.toArray (.long x :: .int j :: .ref a :: st)) rfl rfl (K.dec hd)
  rw [r2] at W'
  have A2 := ArV.set A0 W' rfl
  rw [← List.map_set] at A2
  exact End.back stp (w h' (Keep.of_wr W') A2 T' _ X' e' (Fr.snoc X' N (by rw [K.hn0]; exact ha)))
theorem WP.bastore (K : Ok k l Z n0 rm bytes maxL y ret Q) {xs : List Int8} {j x : Int32} (pc' i : Nat) (A : ArB Z h a xs) (hj : j.toInt = (i : Nat)) (hi : i < xs.length) (hd : decode bytes pc = .ok (.bastore, 1)) (hp : pc + 1 = pc') (ha : n0 ≤ a)
    (w : ∀ h', Keep h h' [a] → ArB Z h' a (xs.set i x.toInt8) → WP k h' cells slots pc' ls st) : WP k h cells slots pc ls (.int x :: .int j :: .ref a :: st) := by
  subst hp
  intro T locs X e N
  have A0 := A
  obtain ⟨c, A', q1, -⟩ := A
  obtain ⟨r1, r2⟩ := idx_ok hj (show i < c.slots.size by have := congrArg List.length q1; simp at this; omega)
  obtain ⟨T', h', X', e', W', stp⟩ := stB X K.hx K.hZ e A' r1 (x := x) (g := mkF k.m pc ls.toArray (.int x :: .int j :: .ref a :: st)) rfl rfl (K.dec hd)
  rw [r2] at W'
  have A2 : ArB Z h' a (xs.set i x.toInt8) := by
    have := ArV.set A0 W' (fits_nar_byte x)
    rw [show Value.int (nar .byte x) = (fun z : Int8 => Value.int z.toInt32) x.toInt8 from rfl, ← List.map_set] at this
    exact this
  exact End.back stp (w h' (Keep.of_wr W') A2 T' _ X' e' (Fr.snoc X' N (by rw [K.hn0]; exact ha)))
theorem WP.newarray (K : Ok k l Z n0 rm bytes maxL y ret Q) {aty : ArrayType} {n : Int32} (pc' m cap cells' slots' : Nat) (hw : (Jvm.Cond.arrayClass (newarray.typeOf aty)).before a0 Z = true) (hd : decode bytes pc = .ok (.newarray aty, 2)) (hp : pc + 2 = pc') (hn : n.toInt = (m : Nat)) (hcap : m ≤ cap) (hb : cap * 8 ≤ 536870912)
    (hc : cells + 1 = cells') (hs : slots + cap = slots') (hc' : cells' ≤ rm.cells) (hs' : slots' ≤ rm.slots)
    (w : ∀ h' a, a = h.size → Ext h h' → ArV Z h' a (newarray.typeOf aty) (List.replicate m (defaultValue (newarray.typeOf aty))) → WP k h' cells' slots' pc' ls (.ref a :: st)) : WP k h cells slots pc ls (.int n :: st) := by
  subst hp hc hs
  intro T locs X e N
  have hn' : ¬ n < 0 := by rw [Int32.lt_iff_toInt_lt, show (0 : Int32).toInt = 0 from rfl]; omega
  obtain ⟨T', h', cA, X', e', E', A', stp⟩ := newP X K.hx K.hZ hw e (g := mkF k.m pc ls.toArray (.int n :: st)) rfl (K.dec hd) rfl hn' (cap := cap) (by simp only [Int32.toNatClampNeg]; omega) hb (by rw [K.hR]; exact hc') (by rw [K.hR]; exact hs')
  exact End.back stp (w h' _ rfl E' (ArV.new A' hn (by cases aty <;> rfl)) T' locs X' e' N)
theorem WP.newarrayE (K : Ok k l Z n0 rm bytes maxL y ret Q) {aty : ArrayType} {n : Int32} {ad : String} (pc' m cap cells' slots' : Nat) (hw : (Jvm.Cond.arrayClass (newarray.typeOf aty)).before a0 Z = true) (hd : decode bytes pc = .ok (.newarray aty, 2)) (hp : pc + 2 = pc') (hn : n.toInt = (m : Nat)) (hcap : m ≤ cap) (hb : cap * 8 ≤ 536870912)
    (hc : cells + 1 = cells') (hs : slots + cap = slots') (hc' : cells' ≤ rm.cells) (hs' : slots' ≤ rm.slots) (had : "[" ++ (newarray.typeOf aty).toString = ad)
    (w : ∀ h' a, a = h.size → Ext h h' → ArV Z h' a (newarray.typeOf aty) (List.replicate m (defaultValue (newarray.typeOf aty))) → Exa Z h' a ad → WP k h' cells' slots' pc' ls (.ref a :: st)) : WP k h cells slots pc ls (.int n :: st) := by
  subst hp hc hs
  intro T locs X e N
  have hn' : ¬ n < 0 := by rw [Int32.lt_iff_toInt_lt, show (0 : Int32).toInt = 0 from rfl]; omega
  obtain ⟨T', h', cA, X', e', E', A', XA, stp⟩ := newPE X K.hx K.hZ hw e (g := mkF k.m pc ls.toArray (.int n :: st)) rfl (K.dec hd) rfl hn' (cap := cap) (by simp only [Int32.toNatClampNeg]; omega) hb (by rw [K.hR]; exact hc') (by rw [K.hR]; exact hs') had
  exact End.back stp (w h' _ rfl E' (ArV.new A' hn (by cases aty <;> rfl)) XA T' locs X' e' N)
/-! arrays of references -/
def ArR (Z : State) (h : Heap) (a : Addr) (ty : FieldType) (C : String) (vs : List Value) : Prop := ∃ c : Cell, Arr Z h a c ty ∧ c.slots.toList = vs ∧ vs.length < 2 ^ 31 ∧ (∀ v ∈ vs, fits ty v = true) ∧ ∃ (kk : Class) (comp : ClassId) (t : FieldType), Z.vm.classes[c.cls]? = some kk ∧ kk.kind = .array comp t ∧ Z.vm.findClass C = some comp
variable {C : String}
theorem ArR.v (A : ArR Z h a ty C vs) : ArV Z h a ty vs := by obtain ⟨c, q1, q2, q3, q4, -⟩ := A; exact ⟨c, q1, q2, q3, q4⟩
theorem ArR.lt (A : ArR Z h a ty C vs) : a < h.size := A.v.lt
theorem ArR.len (A : ArR Z h a ty C vs) : vs.length < 2 ^ 31 := by obtain ⟨c, -, -, q, -⟩ := A; exact q
theorem ArR.keep {ws : List Addr} (A : ArR Z h a ty C vs) (K : Keep h h' ws) (q : a ∉ ws) : ArR Z h' a ty C vs := by
  obtain ⟨c, A, r⟩ := A
  exact ⟨c, ⟨K.2.1 a c A.1 q, A.2⟩, r⟩
theorem ArR.ext (A : ArR Z h a ty C vs) (E : Ext h h') : ArR Z h' a ty C vs := by
  obtain ⟨c, A, r⟩ := A
  exact ⟨c, A.ext E, r⟩
theorem ArR.other {i : Nat} {v : Value} (A : ArR Z h a ty C vs) (W : Wr h h' b i v) (q : a ≠ b) : ArR Z h' a ty C vs := by
  obtain ⟨c, A, r⟩ := A
  exact ⟨c, A.other W q, r⟩
theorem ArR.sto {x : Addr} (A : ArR Z h a ty C vs) (I : Ins Z h x C true) : Sto Z h a (.ref x) := by
  obtain ⟨c, A, -, -, -, kk, comp, t, o1, o2, o3⟩ := A
  obtain ⟨cv, cT, i1, i2, i3⟩ := I
  cases o3.symm.trans i2
  simp only [Bool.and_eq_true, Bool.not_eq_true'] at i3
  obtain ⟨kc, q⟩ := Vm.classAt_of_findClass o3
  obtain ⟨kv, q2⟩ := Vm.classAt_of_assignable i3.2 ⟨kc, q⟩
  exact Or.inr ⟨c, cv, kk, kv, kc, _, _, x, A.1, o1, o2, q, rfl, i1, i3.1, q2, i3.2⟩
theorem WP.aastore (K : Ok k l Z n0 rm bytes maxL y ret Q) {j : Int32} {v : Value} (pc' i : Nat) (A : ArR Z h a ty C vs) (hty : ty.isReference = true) (F : Sto Z h a v) (hf : fits ty v = true) (hj : j.toInt = (i : Nat)) (hi : i < vs.length) (hd : decode bytes pc = .ok (.aastore, 1)) (hp : pc + 1 = pc') (ha : n0 ≤ a)
    (w : ∀ h', Keep h h' [a] → ArR Z h' a ty C (vs.set i v) → WP k h' cells slots pc' ls st) : WP k h cells slots pc ls (v :: .int j :: .ref a :: st) := by
  subst hp
  intro T locs X e N
  obtain ⟨c, A', q1, q2, q3, q4⟩ := A
  obtain ⟨r1, r2⟩ := idx_ok hj (show i < c.slots.size by have := congrArg List.length q1; simp at this; omega)
  obtain ⟨T', h', X', e', W', stp⟩ := stR X K.hx K.hZ e A' r1 hty F (g := mkF k.m pc ls.toArray (v :: .int j :: .ref a :: st)) rfl rfl (K.dec hd)
  rw [r2] at W'
  have A2 : ArR Z h' a ty C (vs.set i v) := by
    refine ⟨c.setSlot i v, A'.same W', by simp [Cell.setSlot, q1], by simpa using q2, fun u hu => ?_, q4⟩
    rcases List.mem_or_eq_of_mem_set hu with z | rfl
    · exact q3 u z
    · exact hf
  exact End.back stp (w h' (Keep.of_wr W') A2 T' _ X' e' (Fr.snoc X' N (by rw [K.hn0]; exact ha)))
theorem new_ref {cA : ClassId} {n : Int32} {m : Nat} (A : Arr Z h a (newA cA ty n) ty) (hr : ty.isReference = true) (hn : n.toInt = (m : Nat)) (O : ∃ (kk : Class) (comp : ClassId) (t : FieldType), Z.vm.classes[cA]? = some kk ∧ kk.kind = .array comp t ∧ Z.vm.findClass C = some comp) : ArR Z h a ty C (List.replicate m .null) := by
  have e : n.toNatClampNeg = m := by simp only [Int32.toNatClampNeg]; omega
  have d : defaultValue ty = .null := by cases ty <;> simp [FieldType.isReference] at hr <;> rfl
  refine ⟨_, A, ?_, ?_, fun v hv => ?_, O⟩
  · simp [newA, e, d]
  · have := n.toInt_lt; simp; omega
  · rw [List.eq_of_mem_replicate hv]; cases ty <;> simp [FieldType.isReference] at hr <;> rfl
theorem WP.anewarrayA (K : Ok k l Z n0 rm bytes maxL y ret Q) {i : Nat} {et : FieldType} {n : Int32} (pc' m cap cells' slots' : Nat) (hC : (FieldType.array et).toString = C) (h1 : (Jvm.Cond.classLink y.cls i C).before a0 Z = true) (h2 : (Jvm.Cond.arrayOver (.array et)).before a0 Z = true) (hd : decode bytes pc = .ok (.anewarray i, 3)) (hp : pc + 3 = pc') (hn : n.toInt = (m : Nat)) (hcap : m ≤ cap) (hb : cap * 8 ≤ 536870912)
    (hc : cells + 1 = cells') (hs : slots + cap = slots') (hc' : cells' ≤ rm.cells) (hs' : slots' ≤ rm.slots)
    (w : ∀ h' a, a = h.size → Ext h h' → ArR Z h' a (.array et) C (List.replicate m .null) → WP k h' cells' slots' pc' ls (.ref a :: st)) : WP k h cells slots pc ls (.int n :: st) := by
  subst hp hc hs
  intro T locs X e N
  have hn' : ¬ n < 0 := by rw [Int32.lt_iff_toInt_lt, show (0 : Int32).toInt = 0 from rfl]; omega
  obtain ⟨T', h', cA, X', e', E', A', -, O, stp⟩ := newRA X K.hx K.hZ K.hown hC h1 h2 e (g := mkF k.m pc ls.toArray (.int n :: st)) rfl (K.dec hd) rfl hn' (cap := cap) (by simp only [Int32.toNatClampNeg]; omega) hb (by rw [K.hR]; exact hc') (by rw [K.hR]; exact hs') (ad := "[" ++ C) rfl
  obtain ⟨kk, comp, o1, o2, o3⟩ := O
  exact End.back stp (w h' _ rfl E' (new_ref A' rfl hn ⟨kk, comp, _, o1, o2, o3⟩) T' locs X' e' N)
theorem WP.anewarrayO (K : Ok k l Z n0 rm bytes maxL y ret Q) {i : Nat} {n : Int32} (pc' m cap cells' slots' : Nat) (h1 : (Jvm.Cond.classLink y.cls i C).before a0 Z = true) (h2 : (Jvm.Cond.arrayOver (.object C)).before a0 Z = true) (hd : decode bytes pc = .ok (.anewarray i, 3)) (hp : pc + 3 = pc') (hn : n.toInt = (m : Nat)) (hcap : m ≤ cap) (hb : cap * 8 ≤ 536870912)
    (hc : cells + 1 = cells') (hs : slots + cap = slots') (hc' : cells' ≤ rm.cells) (hs' : slots' ≤ rm.slots)
    (w : ∀ h' a, a = h.size → Ext h h' → ArR Z h' a (.object C) C (List.replicate m .null) → WP k h' cells' slots' pc' ls (.ref a :: st)) : WP k h cells slots pc ls (.int n :: st) := by
  subst hp hc hs
  intro T locs X e N
  have hn' : ¬ n < 0 := by rw [Int32.lt_iff_toInt_lt, show (0 : Int32).toInt = 0 from rfl]; omega
  obtain ⟨T', h', cA, X', e', E', A', O, stp⟩ := newR X K.hx K.hZ K.hown h1 h2 e (g := mkF k.m pc ls.toArray (.int n :: st)) rfl (K.dec hd) rfl hn' (cap := cap) (by simp only [Int32.toNatClampNeg]; omega) hb (by rw [K.hR]; exact hc') (by rw [K.hR]; exact hs')
  obtain ⟨kk, comp, o1, o2, o3⟩ := O
  exact End.back stp (w h' _ rfl E' (new_ref A' rfl hn ⟨kk, comp, _, o1, o2, o3⟩) T' locs X' e' N)
theorem ArI.of_new {m : Nat} (A : ArV Z h a (newarray.typeOf .int) (List.replicate m (defaultValue (newarray.typeOf .int)))) : ArI Z h a (List.replicate m 0) := by
  unfold ArI; rw [List.map_replicate]; exact A
theorem ArJ.of_new {m : Nat} (A : ArV Z h a (newarray.typeOf .long) (List.replicate m (defaultValue (newarray.typeOf .long)))) : ArJ Z h a (List.replicate m 0) := by
  unfold ArJ; rw [List.map_replicate]; exact A
theorem ArB.of_new {m : Nat} (A : ArV Z h a (newarray.typeOf .byte) (List.replicate m (defaultValue (newarray.typeOf .byte)))) : ArB Z h a (List.replicate m 0) := by
  unfold ArB; rw [List.map_replicate]; exact A
theorem ArI.len {xs : List Int32} (A : ArI Z h a xs) : xs.length < 2 ^ 31 := by obtain ⟨c, -, -, q, -⟩ := A; simpa using q
theorem ArJ.len {xs : List Int64} (A : ArJ Z h a xs) : xs.length < 2 ^ 31 := by obtain ⟨c, -, -, q, -⟩ := A; simpa using q
theorem ArB.len {xs : List Int8} (A : ArB Z h a xs) : xs.length < 2 ^ 31 := by obtain ⟨c, -, -, q, -⟩ := A; simpa using q
theorem ArI.lt {xs : List Int32} (A : ArI Z h a xs) : a < h.size := ArV.lt A
theorem ArI.keep {xs : List Int32} {ws : List Addr} (A : ArI Z h a xs) (K : Keep h h' ws) (q : a ∉ ws) : ArI Z h' a xs := ArV.keep A K q
theorem ArI.ext {xs : List Int32} (A : ArI Z h a xs) (E : Ext h h') : ArI Z h' a xs := ArV.ext A E
theorem ArI.other {xs : List Int32} {i : Nat} {v : Value} (A : ArI Z h a xs) (W : Wr h h' b i v) (q : a ≠ b) : ArI Z h' a xs := ArV.other A W q
theorem ArJ.lt {xs : List Int64} (A : ArJ Z h a xs) : a < h.size := ArV.lt A
theorem ArJ.keep {xs : List Int64} {ws : List Addr} (A : ArJ Z h a xs) (K : Keep h h' ws) (q : a ∉ ws) : ArJ Z h' a xs := ArV.keep A K q
theorem ArJ.ext {xs : List Int64} (A : ArJ Z h a xs) (E : Ext h h') : ArJ Z h' a xs := ArV.ext A E
theorem ArJ.other {xs : List Int64} {i : Nat} {v : Value} (A : ArJ Z h a xs) (W : Wr h h' b i v) (q : a ≠ b) : ArJ Z h' a xs := ArV.other A W q
theorem ArB.lt {xs : List Int8} (A : ArB Z h a xs) : a < h.size := ArV.lt A
theorem ArB.keep {xs : List Int8} {ws : List Addr} (A : ArB Z h a xs) (K : Keep h h' ws) (q : a ∉ ws) : ArB Z h' a xs := ArV.keep A K q
theorem ArB.ext {xs : List Int8} (A : ArB Z h a xs) (E : Ext h h') : ArB Z h' a xs := ArV.ext A E
theorem ArB.other {xs : List Int8} {i : Nat} {v : Value} (A : ArB Z h a xs) (W : Wr h h' b i v) (q : a ≠ b) : ArB Z h' a xs := ArV.other A W q
/-! calls by contract -/
theorem WP.callS (K : Ok k l Z n0 rm bytes maxL y ret Q) {i maxL' : Nat} {y' : MethodName} {bytes' : ByteArray} {ret' : Option FieldType} {rm' : Room} {as : Array Value} {Q' : Option Value → Heap → Prop} {ps : List FieldType} {rt : Option FieldType} (pc' cells' slots' W : Nat) (argsL rest : List Value)
    (h1 : (Jvm.Cond.methodLink y.cls i y').before a0 Z = true) (h2 : (Jvm.Cond.static y').before a0 Z = true) (h3 : (Jvm.Cond.initialized y'.cls).before a0 Z = true) (h4 : (Jvm.Cond.code y' bytes' maxL' ret').before a0 Z = true)
    (hy : y'.cls ≠ "java/lang/invoke/MethodHandle" ∧ y'.cls ≠ "java/lang/invoke/VarHandle") (hpd : parseMethodDescriptor y'.desc = some ⟨ps, rt⟩) (hlen : argsL.length = ps.length) (has : argsL.toArray = as) (hst : argsL.reverse ++ rest = st)
    (hf : rm'.frames + 1 ≤ rm.frames) (hl : W + (maxL' + 11) + rm'.locals ≤ rm.locals) (hW : (rest.map fun v => v.category).sum ≤ W) (hsz : ls.length = maxL) (hd : decode bytes pc = .ok (.invokestatic i, 3)) (hp : pc + 3 = pc')
    (hc : cells + rm'.cells = cells') (hs : slots + rm'.slots = slots') (hc' : cells' ≤ rm.cells) (hs' : slots' ≤ rm.slots) (C : Con l Z y' bytes' maxL' ret' rm' n0 as h Q')
    (w : ∀ v h', Q' v h' → WP k h' cells' slots' pc' ls (v.toList ++ rest)) : WP k h cells slots pc ls st := by
  subst hp hc hs hst has
  obtain ⟨hx, hZ, rfl, hby, hml, hown, hret, hlk, hnm, rfl, rfl, rfl, rfl, hfin⟩ := K
  intro T locs X e N
  obtain ⟨v, vm1, ⟨T', L', k', n'⟩, -, X', ⟨Lc, ⟨hQ, hN⟩, l', y'', z'⟩, stp⟩ := Jvm.LawKit.callS X hx hown (mvT hZ h1) (mvT hZ h2) (mvT hZ h3) (mvT hZ h4) hy (backOf (W := W) (Q := fun v h L => Q' v h ∧ Fr k.n0 L) (C []) hZ h4 h3 hf hl) (g := mkF k.m pc ls.toArray (argsL.reverse ++ rest)) rfl (by rw [hml]; simpa using hsz) (lenOf hpd hlen) rfl (by show 2 * 0 + _ ≤ _; omega) (hb hby hd) (fun _ _ => ⟨rfl, e, hc', hs'⟩)
  dsimp only [Pt.U, Pt.locs, Pt.cells, Pt.slots] at X' l' y'' z' stp hQ
  subst l' y'' z'
  exact End.back stp (w v _ hQ T' _ X' rfl (Fr.app N hN))
theorem WP.callI (K : Ok k l Z n0 rm bytes maxL y ret Q) {i maxL' : Nat} {y' : MethodName} {bytes' : ByteArray} {rm' : Room} {as : Array Value} {Q' : Option Value → Heap → Prop} {ps : List FieldType} {rt : Option FieldType} (pc' cells' slots' W : Nat) (argsL rest : List Value)
    (h1 : (Jvm.Cond.methodLink y.cls i y').before a0 Z = true) (h2 : (Jvm.Cond.instanceMethod y').before a0 Z = true) (h3 : (Jvm.Cond.initialized y'.cls).before a0 Z = true) (h4 : (Jvm.Cond.code y' bytes' maxL' none).before a0 Z = true) (hy1 : y'.name = "<init>")
    (hy : y'.cls ≠ "java/lang/invoke/MethodHandle" ∧ y'.cls ≠ "java/lang/invoke/VarHandle") (hpd : parseMethodDescriptor y'.desc = some ⟨ps, rt⟩) (hlen : argsL.length = ps.length) (has : (.ref a :: argsL).toArray = as) (hst : argsL.reverse ++ .ref a :: rest = st)
    (hf : rm'.frames + 1 ≤ rm.frames) (hl : W + (maxL' + 11) + rm'.locals ≤ rm.locals) (hW : (rest.map fun v => v.category).sum ≤ W) (hsz : ls.length = maxL) (hd : decode bytes pc = .ok (.invokespecial i, 3)) (hp : pc + 3 = pc')
    (hc : cells + rm'.cells = cells') (hs : slots + rm'.slots = slots') (hc' : cells' ≤ rm.cells) (hs' : slots' ≤ rm.slots) (C : Con l Z y' bytes' maxL' none rm' n0 as h Q')
    (w : ∀ v h', Q' v h' → WP k h' cells' slots' pc' ls (v.toList ++ rest)) : WP k h cells slots pc ls st := by
  subst hp hc hs hst has
  obtain ⟨hx, hZ, rfl, hby, hml, hown, hret, hlk, hnm, rfl, rfl, rfl, rfl, hfin⟩ := K
  intro T locs X e N
  obtain ⟨v, vm1, ⟨T', L', k', n'⟩, -, X', ⟨Lc, ⟨hQ, hN⟩, l', y'', z'⟩, stp⟩ := Stand.specialBack X hx hy1 hown (mvT hZ h1) (mvT hZ h2) (mvT hZ h4) hy (backOf (W := W) (Q := fun v h L => Q' v h ∧ Fr k.n0 L) (C []) hZ h4 h3 hf hl) (g := mkF k.m pc ls.toArray (argsL.reverse ++ .ref a :: rest)) rfl (by rw [hml]; simpa using hsz) (Steps.refl _) (a := a) (argsL := argsL) (rest := rest) (lenOf hpd hlen) rfl (by show 2 * 0 + _ ≤ _; omega) (hb hby hd) (fun _ _ => ⟨rfl, e, hc', hs'⟩)
  dsimp only [Pt.U, Pt.locs, Pt.cells, Pt.slots] at X' l' y'' z' stp hQ
  subst l' y'' z'
  exact End.back (fun t q => stp.trans q) (w v _ hQ T' _ X' rfl (Fr.app N hN))
theorem WP.callV (K : Ok k l Z n0 rm bytes maxL y ret Q) {i maxL' : Nat} {y' z : MethodName} {C : String} {bytes' : ByteArray} {ret' : Option FieldType} {rm' : Room} {as : Array Value} {Q' : Option Value → Heap → Prop} {ps : List FieldType} {rt : Option FieldType} (pc' cells' slots' W : Nat) (argsL rest : List Value)
    (h1 : (Jvm.Cond.methodLink y.cls i y').before a0 Z = true) (h2 : (Jvm.Cond.declares y').before a0 Z = true) (hzy : z = y') (h5 : (Jvm.Cond.selects C y' z).before a0 Z = true) (h6 : (Jvm.Cond.instanceMethod z).before a0 Z = true) (h3 : (Jvm.Cond.initialized z.cls).before a0 Z = true) (h4 : (Jvm.Cond.code z bytes' maxL' ret').before a0 Z = true)
    (hy : y'.cls ≠ "java/lang/invoke/MethodHandle" ∧ y'.cls ≠ "java/lang/invoke/VarHandle") (hpd : parseMethodDescriptor y'.desc = some ⟨ps, rt⟩) (hlen : argsL.length = ps.length) (has : (.ref a :: argsL).toArray = as) (hst : argsL.reverse ++ .ref a :: rest = st)
    (hf : rm'.frames + 1 ≤ rm.frames) (hl : W + (maxL' + 11) + rm'.locals ≤ rm.locals) (hW : (rest.map fun v => v.category).sum ≤ W) (hsz : ls.length = maxL) (hd : decode bytes pc = .ok (.invokevirtual i, 3)) (hp : pc + 3 = pc')
    (hc : cells + rm'.cells = cells') (hs : slots + rm'.slots = slots') (hc' : cells' ≤ rm.cells) (hs' : slots' ≤ rm.slots) (E : Exa Z h a C) (Cn : Con l Z z bytes' maxL' ret' rm' n0 as h Q')
    (w : ∀ v h', Q' v h' → WP k h' cells' slots' pc' ls (v.toList ++ rest)) : WP k h cells slots pc ls st := by
  subst hzy hp hc hs hst has
  obtain ⟨hx, hZ, rfl, hby, hml, hown, hret, hlk, hnm, rfl, rfl, rfl, rfl, hfin⟩ := K
  intro T locs X e N
  obtain ⟨cq, kq, qa, qb, qc⟩ := isOf hZ e E
  obtain ⟨v, vm1, ⟨T', L', k', n'⟩, -, X', ⟨Lc, ⟨hQ, hN⟩, l', y'', z'⟩, stp⟩ := Stand.virtualBack X hx hown (mvT hZ h1) (mvT hZ h2) (notFace_of_selects (args := #[]) (mvT hZ h5)) (mvT hZ h5) (mvT hZ h6) hy (backOf (W := W) (Q := fun v h L => Q' v h ∧ Fr k.n0 L) (Cn []) hZ h4 h3 hf hl) qa qc (g := mkF k.m pc ls.toArray (argsL.reverse ++ .ref a :: rest)) rfl (by rw [hml]; simpa using hsz) (Steps.refl _) (argsL := argsL) (rest := rest) (lenOf hpd hlen) rfl (by show 2 * 0 + _ ≤ _; omega) (hb hby hd) (fun _ _ => ⟨rfl, e, hc', hs'⟩)
  dsimp only [Pt.U, Pt.locs, Pt.cells, Pt.slots] at X' l' y'' z' stp hQ
  subst l' y'' z'
  exact End.back (fun t q => stp.trans q) (w v _ hQ T' _ X' rfl (Fr.app N hN))
theorem r1_next {Q' : Value → Heap → Prop} {cells' slots' pc' : Nat} {rest : List Value} (w : ∀ r h', Q' r h' → WP k h' cells' slots' pc' ls (r :: rest)) : ∀ v h', R1 Q' v h' → WP k h' cells' slots' pc' ls (v.toList ++ rest) := fun v h' q => by
  obtain ⟨r, rfl, q⟩ := q; exact w r h' q
theorem r0_next {Q' : Heap → Prop} {cells' slots' pc' : Nat} {rest : List Value} (w : ∀ h', Q' h' → WP k h' cells' slots' pc' ls rest) : ∀ v h', R0 Q' v h' → WP k h' cells' slots' pc' ls (v.toList ++ rest) := fun v h' q => by
  obtain ⟨rfl, q⟩ := q; exact w h' q
end HeapSteps
end Jvm.OwnWP
namespace Jvm.OwnWP
theorem i32_of {n : Nat} (h : n < 2 ^ 31) : ∃ z : Int32, z.toInt = (n : Nat) := ⟨Int32.ofNat n, Int32.toInt_ofNat_of_lt h⟩
theorem i32_rng (x : Int32) : -2147483648 ≤ x.toInt ∧ x.toInt < 2147483648 := ⟨x.le_toInt, x.toInt_lt⟩
theorem i64_rng (x : Int64) : -9223372036854775808 ≤ x.toInt ∧ x.toInt < 9223372036854775808 := ⟨x.le_toInt, x.toInt_lt⟩
theorem i32_add {x y : Int32} (h1 : -2147483648 ≤ x.toInt + y.toInt) (h2 : x.toInt + y.toInt < 2147483648) : (x + y).toInt = x.toInt + y.toInt := Jvm.Free.XT.add32 ⟨by omega, by omega⟩
theorem i32_sub {x y : Int32} (h1 : -2147483648 ≤ x.toInt - y.toInt) (h2 : x.toInt - y.toInt < 2147483648) : (x - y).toInt = x.toInt - y.toInt := Jvm.Free.XT.sub32 ⟨by omega, by omega⟩
theorem i64_add {x y : Int64} (h1 : -9223372036854775808 ≤ x.toInt + y.toInt) (h2 : x.toInt + y.toInt < 9223372036854775808) : (x + y).toInt = x.toInt + y.toInt := Jvm.Free.XT.add64 ⟨by omega, by omega⟩
theorem i64_sub {x y : Int64} (h1 : -9223372036854775808 ≤ x.toInt - y.toInt) (h2 : x.toInt - y.toInt < 9223372036854775808) : (x - y).toInt = x.toInt - y.toInt := Jvm.Free.XT.sub64 ⟨by omega, by omega⟩
theorem inc32 {x : Int32} {n : Nat} (h : x.toInt = (n : Nat)) (hn : n < 2147483647) : (x + (1 : Int32)).toInt = ((n + 1 : Nat) : Int) := by
  have e1 : (1 : Int32).toInt = 1 := rfl
  rw [i32_add (by omega) (by omega)]; omega
theorem i32_eq {x y : Int32} (h : x.toInt = y.toInt) : x = y := Int32.toInt_inj.mp h
theorem i64_eq {x y : Int64} (h : x.toInt = y.toInt) : x = y := Int64.toInt_inj.mp h
theorem ite01 (P : Prop) [Decidable P] : ∃ t : Int, (if P then (1 : Int) else 0) = t ∧ (P → t = 1) ∧ (¬ P → t = 0) := by
  by_cases h : P
  · exact ⟨1, by simp [h], fun _ => rfl, fun q => absurd h q⟩
  · exact ⟨0, by simp [h], fun q => absurd q h, fun _ => rfl⟩
theorem i32_mul {x y : Int32} (h1 : -2147483648 ≤ x.toInt * y.toInt) (h2 : x.toInt * y.toInt < 2147483648) : (x * y).toInt = x.toInt * y.toInt := Jvm.Free.XT.mul32 ⟨by omega, by omega⟩
theorem st1 {ls : List Slot} {i : Nat} {o : Slot} {v : Value} (h : ls[i]? = some o) (ho : Jvm.RoadKit.One o) (hv : v.category = 1) : storeLocals ls.toArray i v = some (ls.set i (.val v)).toArray := by
  rw [Jvm.Free.XS.store1 (o := o) (by simpa using h) ho hv]; simp
theorem ushr1 {x : Int32} (h : 0 ≤ x.toInt) : (Jvm.Free.XT.ushr x 1).toInt = x.toInt / 2 := by
  have := Jvm.RoadKit.c_iushr x 1 1 rfl (by decide)
  have r := i32_rng x
  unfold Jvm.Free.XT.ushr
  rw [this]; omega
def min32 (x y : Int32) : Int32 := if x.toInt ≤ y.toInt then x else y
def max32 (x y : Int32) : Int32 := if x.toInt ≤ y.toInt then y else x
theorem min32_spec (x y : Int32) : (x.toInt ≤ y.toInt → (min32 x y).toInt = x.toInt) ∧ (y.toInt < x.toInt → (min32 x y).toInt = y.toInt) := by
  unfold min32; split <;> constructor <;> intro <;> first | rfl | omega
theorem max32_spec (x y : Int32) : (x.toInt ≤ y.toInt → (max32 x y).toInt = y.toInt) ∧ (y.toInt < x.toInt → (max32 x y).toInt = x.toInt) := by
  unfold max32; split <;> constructor <;> intro <;> first | rfl | omega
def min64 (x y : Int64) : Int64 := if x.toInt ≤ y.toInt then x else y
def max64 (x y : Int64) : Int64 := if x.toInt ≤ y.toInt then y else x
theorem min64_spec (x y : Int64) : (x.toInt ≤ y.toInt → (min64 x y).toInt = x.toInt) ∧ (y.toInt < x.toInt → (min64 x y).toInt = y.toInt) := by
  unfold min64; split <;> constructor <;> intro <;> first | rfl | omega
theorem max64_spec (x y : Int64) : (x.toInt ≤ y.toInt → (max64 x y).toInt = y.toInt) ∧ (y.toInt < x.toInt → (max64 x y).toInt = x.toInt) := by
  unfold max64; split <;> constructor <;> intro <;> first | rfl | omega
end Jvm.OwnWP

namespace Jvm.Pilot.@@N@@
open Jvm Jvm.ClassFile Sem Op Lib Jvm.Free Jvm.Stand Jvm.LawKit Jvm.RoadKit Bundle Jvm.OwnWP Jvm.Pilot.@@N@@.Jvm.D
def bt (w : Int64) (i : Nat) : Bool := w.toBitVec.getLsbD i
theorem bt_or (w v : Int64) (i : Nat) : bt (w ||| v) i = (bt w i || bt v i) := by simp [bt]
theorem bt_and (w v : Int64) (i : Nat) : bt (w &&& v) i = (bt w i && bt v i) := by simp [bt]
theorem bt_zero (i : Nat) : bt 0 i = false := by simp [bt]
theorem bt_nil (w : Int64) : w.toInt = 0 ↔ ∀ i, i < 64 → bt w i = false := by
  constructor
  · intro h i _
    have : w = 0 := Int64.toInt_inj.mp h
    rw [this]; exact bt_zero i
  · intro h
    have : w = 0 := by
      apply Int64.toBitVec_inj.mp
      apply BitVec.eq_of_getLsbD_eq
      intro i hi
      rw [show w.toBitVec.getLsbD i = bt w i from rfl, h i hi]
      exact (bt_zero i).symm
    rw [this]; rfl
theorem shl_idx {x : Int32} {n : Nat} (hx : x.toInt = (n : Nat)) : x.toInt64 &&& 63 = Int64.ofNat (n % 64) := by
  apply Int64.toInt_inj.mp
  rw [c_maskL x.toInt64 63 6 (by decide) rfl, c_i2l, hx, Int64.toInt_ofNat_of_lt (by omega)]
  omega
theorem one_shl : ∀ m, m < 64 → ∀ i, i < 64 → bt ((1 : Int64) <<< Int64.ofNat m) i = decide (i = m) := by decide +kernel
theorem ones_shl : ∀ m, m < 64 → ∀ i, i < 64 → bt ((-1 : Int64) <<< Int64.ofNat m) i = decide (m ≤ i) := by decide +kernel
theorem one_shl_not : ∀ m, m < 64 → ∀ i, i < 64 → bt (((1 : Int64) <<< Int64.ofNat m) ^^^ (-1 : Int64)) i = !decide (i = m) := by decide +kernel
/-- the i-th bit of a row of words -/
def lb (W : List Int64) (i : Nat) : Bool := bt (W.getD (i / 64) 0) (i % 64)
theorem getD_set_self {W : List Int64} {q : Nat} {v : Int64} (h : q < W.length) : (W.set q v).getD q 0 = v := by simp [List.getD_eq_getElem?_getD, h]
theorem getD_set_ne {W : List Int64} {q r : Nat} {v : Int64} (h : q ≠ r) : (W.set q v).getD r 0 = W.getD r 0 := by simp [List.getD_eq_getElem?_getD, List.getElem?_set_ne h]
theorem lb_add {W : List Int64} {x : Int32} {n : Nat} (hx : x.toInt = (n : Nat)) (hn : n / 64 < W.length) (i : Nat) : lb (W.set (n / 64) (W.getD (n / 64) 0 ||| ((1 : Int64) <<< (x.toInt64 &&& 63)))) i = (lb W i || decide (i = n)) := by
  unfold lb
  by_cases q : i / 64 = n / 64
  · rw [q, getD_set_self hn, bt_or, shl_idx hx, one_shl _ (by omega) _ (by omega)]
    congr 1; exact decide_eq_decide.mpr (by omega)
  · rw [getD_set_ne (Ne.symm q), show decide (i = n) = false from decide_eq_false (fun e => q (by rw [e])), Bool.or_false]
theorem lb_del {W : List Int64} {x : Int32} {n : Nat} (hx : x.toInt = (n : Nat)) (hn : n / 64 < W.length) (i : Nat) : lb (W.set (n / 64) (W.getD (n / 64) 0 &&& (((1 : Int64) <<< (x.toInt64 &&& 63)) ^^^ (-1 : Int64)))) i = (lb W i && !decide (i = n)) := by
  unfold lb
  by_cases q : i / 64 = n / 64
  · rw [q, getD_set_self hn, bt_and, shl_idx hx, one_shl_not _ (by omega) _ (by omega)]
    congr 2; exact decide_eq_decide.mpr (by omega)
  · rw [getD_set_ne (Ne.symm q), show decide (i = n) = false from decide_eq_false (fun e => q (by rw [e]))]; simp
theorem lb_has {W : List Int64} {x : Int32} {n : Nat} (hx : x.toInt = (n : Nat)) : ((W.getD (n / 64) 0 &&& ((1 : Int64) <<< (x.toInt64 &&& 63))).toInt = 0) ↔ lb W n = false := by
  rw [bt_nil]
  constructor
  · intro h
    have := h (n % 64) (by omega)
    rw [bt_and, shl_idx hx, one_shl _ (by omega) _ (by omega)] at this
    simpa [lb] using this
  · intro h i hi
    rw [bt_and, shl_idx hx, one_shl _ (by omega) _ hi]
    by_cases q : i = n % 64
    · subst q; rw [show bt (W.getD (n / 64) 0) (n % 64) = lb W n from rfl, h]; rfl
    · simp [q]
/-- some s of S lies, j levels up, at i -/
def Up (S : Nat → Prop) (j i : Nat) : Prop := ∃ s, S s ∧ s / 64 ^ j = i
def Lv (W : List Int64) (S : Nat → Prop) (j : Nat) : Prop := ∀ i, i < 64 * W.length → (lb W i = true ↔ Up S j i)
def Szs (cap : Nat) (Ws : List (List Int64)) : Prop := 0 < Ws.length ∧ (∀ W, Ws[0]? = some W → cap ≤ 64 * W.length) ∧ (∀ (j : Nat) (W V : List Int64), Ws[j]? = some W → Ws[j + 1]? = some V → W.length ≤ 64 * V.length) ∧ (∀ W, Ws[Ws.length - 1]? = some W → W.length = 1) ∧ (∀ (j : Nat) (W : List Int64), Ws[j]? = some W → W.length < 1000000) ∧ Ws.length < 100
def Good (cap : Nat) (S : Nat → Prop) (Ws : List (List Int64)) : Prop := Szs cap Ws ∧ (∀ s, S s → s < cap) ∧ ∀ (j : Nat) (W : List Int64), Ws[j]? = some W → Lv W S j
theorem div_up (s j : Nat) : s / 64 ^ (j + 1) = s / 64 ^ j / 64 := by rw [Nat.pow_succ, Nat.div_div_eq_div_mul]
theorem szs_bound {cap : Nat} {Ws : List (List Int64)} (h : Szs cap Ws) {s : Nat} (hs : s < cap) : ∀ (j : Nat) (W : List Int64), Ws[j]? = some W → s / 64 ^ j < 64 * W.length := by
  intro j
  induction j with
  | zero => intro W hW; have := h.2.1 W hW; simp; omega
  | succ j ih =>
    intro V hV
    have hj : j + 1 < Ws.length := (List.getElem?_eq_some_iff.mp hV).1
    have hW : Ws[j]? = some Ws[j] := List.getElem?_eq_getElem (by omega)
    have h1 := ih _ hW
    have h2 := h.2.2.1 j _ V hW hV
    rw [div_up]; omega
theorem szs_set {cap : Nat} {Ws : List (List Int64)} (h : Szs cap Ws) {j : Nat} {W W' : List Int64} (hW : Ws[j]? = some W) (hl : W'.length = W.length) : Szs cap (Ws.set j W') := by
  have hj : j < Ws.length := (List.getElem?_eq_some_iff.mp hW).1
  have key : ∀ (i : Nat) (V : List Int64), (Ws.set j W')[i]? = some V → ∃ V0, Ws[i]? = some V0 ∧ V0.length = V.length := by
    intro i V hV
    by_cases q : j = i
    · subst q; rw [List.getElem?_set_self hj] at hV; cases hV; exact ⟨W, hW, hl.symm⟩
    · rw [List.getElem?_set_ne q] at hV; exact ⟨V, hV, rfl⟩
  refine ⟨by rw [List.length_set]; exact h.1, ?_, ?_, ?_, ?_, by rw [List.length_set]; exact h.2.2.2.2.2⟩
  · intro V hV; obtain ⟨V0, e, el⟩ := key 0 V hV; rw [← el]; exact h.2.1 V0 e
  · intro i V U hV hU
    obtain ⟨V0, e1, l1⟩ := key i V hV; obtain ⟨U0, e2, l2⟩ := key (i + 1) U hU
    rw [← l1, ← l2]; exact h.2.2.1 i V0 U0 e1 e2
  · intro V hV; rw [List.length_set] at hV; obtain ⟨V0, e, el⟩ := key _ V hV; rw [← el]; exact h.2.2.2.1 V0 e
  · intro i V hV; obtain ⟨V0, e, el⟩ := key i V hV; rw [← el]; exact h.2.2.2.2.1 i V0 e
/-- two numbers that meet one level up meet on every level above -/
theorem up_meet {s x j : Nat} (h : s / 64 ^ (j + 1) = x / 64 ^ (j + 1)) : ∀ i, j + 1 ≤ i → s / 64 ^ i = x / 64 ^ i := by
  intro i hi
  obtain ⟨d, rfl⟩ := Nat.exists_eq_add_of_le hi
  rw [Nat.pow_add, ← Nat.div_div_eq_div_mul, ← Nat.div_div_eq_div_mul, h]
theorem lb_out {W : List Int64} {i : Nat} (h : 64 * W.length ≤ i) : lb W i = false := by
  unfold lb
  rw [List.getD_eq_getElem?_getD, List.getElem?_eq_none (by omega)]; exact bt_zero _
theorem word_bit {W : List Int64} {q b : Nat} (hb : b < 64) : lb W (64 * q + b) = bt (W.getD q 0) b := by
  unfold lb
  rw [show (64 * q + b) / 64 = q by omega, show (64 * q + b) % 64 = b by omega]
/-- what add leaves on one level -/
theorem lv_add {W : List Int64} {S : Nat → Prop} {j x : Nat} {sl : Int32} (h : Lv W S j) (hs : sl.toInt = ((x / 64 ^ j : Nat) : Int)) (hb : x / 64 ^ j / 64 < W.length) : Lv (W.set (x / 64 ^ j / 64) (W.getD (x / 64 ^ j / 64) 0 ||| ((1 : Int64) <<< (sl.toInt64 &&& 63)))) (fun s => S s ∨ s = x) j := by
  intro i hi
  rw [List.length_set] at hi
  rw [lb_add hs hb, Bool.or_eq_true, h i hi, decide_eq_true_iff]
  constructor
  · rintro (⟨s, q1, q2⟩ | rfl)
    · exact ⟨s, Or.inl q1, q2⟩
    · exact ⟨x, Or.inr rfl, rfl⟩
  · rintro ⟨s, q1 | rfl, q2⟩
    · exact Or.inl ⟨s, q1, q2⟩
    · exact Or.inr q2.symm
theorem lv_more {W : List Int64} {S : Nat → Prop} {i x s0 : Nat} (h : Lv W S i) (h0 : S s0) (e : s0 / 64 ^ i = x / 64 ^ i) : Lv W (fun s => S s ∨ s = x) i := by
  intro b hb
  rw [h b hb]
  constructor
  · rintro ⟨s, q1, q2⟩; exact ⟨s, Or.inl q1, q2⟩
  · rintro ⟨s, q1 | rfl, q2⟩
    · exact ⟨s, q1, q2⟩
    · exact ⟨s0, h0, e.trans q2⟩
theorem lv_del {W : List Int64} {S : Nat → Prop} {j x : Nat} {sl : Int32} (h : Lv W S j) (hs : sl.toInt = ((x / 64 ^ j : Nat) : Int)) (hb : x / 64 ^ j / 64 < W.length) (hno : ∀ s, S s → s ≠ x → s / 64 ^ j ≠ x / 64 ^ j) : Lv (W.set (x / 64 ^ j / 64) (W.getD (x / 64 ^ j / 64) 0 &&& (((1 : Int64) <<< (sl.toInt64 &&& 63)) ^^^ (-1 : Int64)))) (fun s => S s ∧ s ≠ x) j := by
  intro i hi
  rw [List.length_set] at hi
  rw [lb_del hs hb, Bool.and_eq_true, h i hi, Bool.not_eq_true', decide_eq_false_iff_not]
  constructor
  · rintro ⟨⟨s, q1, q2⟩, q3⟩
    exact ⟨s, ⟨q1, fun e => q3 (by rw [← q2, e])⟩, q2⟩
  · rintro ⟨s, ⟨q1, q2⟩, q3⟩
    exact ⟨⟨s, q1, q3⟩, fun e => hno s q1 q2 (q3.trans e)⟩
theorem lv_less {W : List Int64} {S : Nat → Prop} {i x s0 : Nat} (h : Lv W S i) (h0 : S s0 ∧ s0 ≠ x) (e : s0 / 64 ^ i = x / 64 ^ i) : Lv W (fun s => S s ∧ s ≠ x) i := by
  intro b hb
  rw [h b hb]
  constructor
  · rintro ⟨s, q1, q2⟩
    by_cases c : s = x
    · subst c; exact ⟨s0, h0, e.trans q2⟩
    · exact ⟨s, ⟨q1, c⟩, q2⟩
  · rintro ⟨s, ⟨q1, -⟩, q2⟩; exact ⟨s, q1, q2⟩
/-- the least of P, j levels up -/
def Mn (P : Nat → Prop) (j m : Nat) : Prop := Up P j m ∧ ∀ i, Up P j i → m ≤ i
theorem mn_step {W : List Int64} {S P : Nat → Prop} {j m T : Nat} (h : Lv W S j) (hsub : ∀ s, P s → S s) (hblk : ∀ s, S s → s / 64 ^ (j + 1) = m → P s) (hm : Mn P (j + 1) m) (hb : m < W.length) (hT : T < 64) (h1 : bt (W.getD m 0) T = true) (h2 : ∀ i, i < T → bt (W.getD m 0) i = false) : Mn P j (64 * m + T) ∧ ∀ s, S s → s / 64 ^ j = 64 * m + T → P s := by
  have hq : ∀ s, S s → s / 64 ^ j = 64 * m + T → P s := fun s hs e => hblk s hs (by rw [div_up, e]; omega)
  refine ⟨⟨?_, ?_⟩, hq⟩
  · obtain ⟨s, q1, q2⟩ := (h (64 * m + T) (by omega)).mp (by rw [word_bit hT]; exact h1)
    exact ⟨s, hq s q1 q2, q2⟩
  · rintro i ⟨s, q1, q2⟩
    have h3 := hm.2 (s / 64 ^ (j + 1)) ⟨s, q1, rfl⟩
    rw [div_up, q2] at h3
    by_cases c : i / 64 = m
    · have hbit : bt (W.getD m 0) (i % 64) = true := by
        have := (h i (by omega)).mpr ⟨s, hsub s q1, q2⟩
        rw [show i = 64 * m + i % 64 by omega, word_bit (by omega)] at this
        exact this
      by_cases d : i % 64 < T
      · rw [h2 _ d] at hbit; cases hbit
      · omega
    · omega
theorem mn_word {W : List Int64} {S P : Nat → Prop} {j m : Nat} (h : Lv W S j) (hsub : ∀ s, P s → S s) (hm : Mn P (j + 1) m) (hbd : ∀ s, S s → s / 64 ^ j < 64 * W.length) : m < W.length ∧ (W.getD m 0).toInt ≠ 0 := by
  obtain ⟨⟨s, q1, q2⟩, -⟩ := hm
  have hb := hbd s (hsub s q1)
  rw [div_up] at q2
  refine ⟨by omega, fun e => ?_⟩
  have := (h _ hb).mpr ⟨s, hsub s q1, rfl⟩
  have e2 := (bt_nil _).mp e (s / 64 ^ j % 64) (by omega)
  unfold lb at this
  rw [q2] at this
  rw [e2] at this; cases this
/-- up one level: nothing is found in this word from the slot on -/
theorem nx_up {W : List Int64} {S : Nat → Prop} {j sl fr : Nat} {x : Int32} (h : Lv W S j) (hx : x.toInt = ((sl : Nat) : Int)) (hb : sl / 64 < W.length) (hz : (W.getD (sl / 64) 0 &&& ((-1 : Int64) <<< (x.toInt64 &&& 63))).toInt = 0) (hbd : ∀ s, S s → s / 64 ^ j < 64 * W.length) (inv : ∀ s, S s → (fr ≤ s ↔ sl ≤ s / 64 ^ j)) : ∀ s, S s → (fr ≤ s ↔ sl / 64 + 1 ≤ s / 64 ^ (j + 1)) := by
  intro s hs
  rw [inv s hs, div_up]
  constructor
  · intro hle
    by_cases c : s / 64 ^ j / 64 = sl / 64
    · exfalso
      have e := (bt_nil _).mp hz (s / 64 ^ j % 64) (by omega)
      rw [bt_and, shl_idx hx, ones_shl _ (by omega) _ (by omega)] at e
      have b1 := (h _ (hbd s hs)).mpr ⟨s, hs, rfl⟩
      unfold lb at b1
      rw [c] at b1
      rw [b1, decide_eq_true (show sl % 64 ≤ s / 64 ^ j % 64 by omega)] at e
      cases e
    · omega
  · intro hle; omega
theorem nx_hit {W : List Int64} {S : Nat → Prop} {j sl fr T : Nat} {x : Int32} (h : Lv W S j) (hx : x.toInt = ((sl : Nat) : Int)) (hb : sl / 64 < W.length) (hT : T < 64) (h1 : bt (W.getD (sl / 64) 0 &&& ((-1 : Int64) <<< (x.toInt64 &&& 63))) T = true) (h2 : ∀ i, i < T → bt (W.getD (sl / 64) 0 &&& ((-1 : Int64) <<< (x.toInt64 &&& 63))) i = false) (hbd : ∀ s, S s → s / 64 ^ j < 64 * W.length) (inv : ∀ s, S s → (fr ≤ s ↔ sl ≤ s / 64 ^ j)) : Mn (fun s => S s ∧ fr ≤ s) j (64 * (sl / 64) + T) ∧ ∀ s, S s → s / 64 ^ j = 64 * (sl / 64) + T → S s ∧ fr ≤ s := by
  rw [bt_and, shl_idx hx, ones_shl _ (by omega) _ hT, Bool.and_eq_true, decide_eq_true_iff] at h1
  have hq : ∀ s, S s → s / 64 ^ j = 64 * (sl / 64) + T → S s ∧ fr ≤ s := fun s hs e => ⟨hs, (inv s hs).mpr (by omega)⟩
  refine ⟨⟨?_, ?_⟩, hq⟩
  · obtain ⟨s, q1, q2⟩ := (h (64 * (sl / 64) + T) (by omega)).mp (by rw [word_bit hT]; exact h1.1)
    exact ⟨s, hq s q1 q2, q2⟩
  · rintro i ⟨s, ⟨q1, q1'⟩, q2⟩
    have h3 := (inv s q1).mp q1'
    rw [q2] at h3
    by_cases c : i / 64 = sl / 64
    · by_cases d : i % 64 < T
      · exfalso
        have e := h2 _ d
        rw [bt_and, shl_idx hx, ones_shl _ (by omega) _ (by omega), decide_eq_true (show sl % 64 ≤ i % 64 by omega), Bool.and_true] at e
        have b1 := (h _ (hbd s q1)).mpr ⟨s, q1, rfl⟩
        unfold lb at b1
        rw [q2, c, e] at b1; cases b1
      · omega
    · omega
/-! the lowest bit -/
def Low (w : Int64) (T : Nat) : Prop := T < 64 ∧ bt w T = true ∧ ∀ i, i < T → bt w i = false
theorem low_of {w : Int64} (h : w.toInt ≠ 0) : ∃ T, Low w T := by
  have : ∃ i, i < 64 ∧ bt w i = true := by
    false_or_by_contra
    rename_i c
    refine h ((bt_nil w).mpr fun i hi => ?_)
    cases e : bt w i
    · rfl
    · exact absurd ⟨i, hi, e⟩ c
  obtain ⟨i, hi, e⟩ := this
  induction i using Nat.strongRecOn with
  | ind i ih =>
    by_cases c : ∃ k, k < i ∧ bt w k = true
    · obtain ⟨k, k1, k2⟩ := c
      exact ih k k1 (by omega) k2
    · refine ⟨i, hi, e, fun k hk => ?_⟩
      cases e' : bt w k
      · rfl
      · exact absurd ⟨k, hk, e'⟩ c
theorem pow_le31 : ∀ t, t < 32 → 17 ≤ t → (2 ^ t - 1) / 65536 = 2 ^ (t - 16) - 1 := by decide +kernel
theorem pow_gt16 : ∀ t, t < 32 → (65536 < 2 ^ t - 1 ↔ 17 ≤ t) := by decide +kernel
theorem pow_le16 : ∀ t, t < 17 → 9 ≤ t → (2 ^ t - 1) / 256 = 2 ^ (t - 8) - 1 := by decide +kernel
theorem pow_gt8 : ∀ t, t < 17 → (256 < 2 ^ t - 1 ↔ 9 ≤ t) := by decide +kernel
theorem pow_le8 : ∀ t, t < 9 → 5 ≤ t → (2 ^ t - 1) / 16 = 2 ^ (t - 4) - 1 := by decide +kernel
theorem pow_gt4 : ∀ t, t < 9 → (16 < 2 ^ t - 1 ↔ 5 ≤ t) := by decide +kernel
theorem pow_le4 : ∀ t, t < 5 → 3 ≤ t → (2 ^ t - 1) / 4 = 2 ^ (t - 2) - 1 := by decide +kernel
theorem pow_gt2 : ∀ t, t < 5 → (4 < 2 ^ t - 1 ↔ 3 ≤ t) := by decide +kernel
theorem pow_top : ∀ t, t < 32 → 2 ^ t - 1 < 2147483648 := by decide +kernel
theorem ntz_c {x y T : Int} {s k : Nat} (ha : x = y + (k : Nat)) (hc : y + (s : Nat) = T + 1) (hk : k ≤ s) : x + ((s - k : Nat) : Int) = T + 1 := by omega
theorem ushrK {x q : Int32} {n : Nat} (k : Nat) (hk : q.toBitVec.toNat % 32 = k) (h0 : 0 < k) (hx : x.toInt = (n : Nat)) : (XT.ushr x q).toInt = ((n / 2 ^ k : Nat) : Int) := by
  have := c_iushr x q k hk h0
  have r := i32_rng x
  unfold XT.ushr
  rw [this, hx, show ((n : Nat) : Int) % 4294967296 = ((n : Nat) : Int) by omega]
  exact (Int.natCast_ediv n (2 ^ k)).symm
/-- ~v & (v - 1) has just the bits below the lowest of v -/
theorem low_mask (b : BitVec 32) (T : Nat) (hT : T < 32) (h1 : b.getLsbD T = true) (h2 : ∀ i, i < T → b.getLsbD i = false) : (b ^^^ BitVec.allOnes 32) &&& (b - 1#32) = BitVec.ofNat 32 (2 ^ T - 1) := by
  have hm : b.toNat % 2 ^ (T + 1) = 2 ^ T := by
    apply Nat.eq_of_testBit_eq
    intro i
    rw [Nat.testBit_mod_two_pow, Nat.testBit_two_pow]
    by_cases c : i < T
    · have : b.toNat.testBit i = false := h2 i c
      simp [this]; omega
    · by_cases d : i = T
      · subst d
        have : b.toNat.testBit i = true := h1
        simp [this]
      · have z1 : decide (i < T + 1) = false := decide_eq_false (by omega)
        have z2 : decide (T = i) = false := decide_eq_false (by omega)
        simp only [z1, z2, Bool.false_and]
  obtain ⟨q, hq⟩ : ∃ q, b.toNat = 2 ^ (T + 1) * q + 2 ^ T := ⟨b.toNat / 2 ^ (T + 1), by rw [← hm]; exact (Nat.div_add_mod _ _).symm⟩
  have hpos : 0 < 2 ^ T := Nat.pow_pos (by decide)
  have hlt := b.isLt
  have hsub : (b - 1#32).toNat = 2 ^ (T + 1) * q + (2 ^ T - 1) := by
    rw [BitVec.toNat_sub]
    have : (1#32 : BitVec 32).toNat = 1 := rfl
    rw [this]
    omega
  have p1 : 2 ^ T < 2 ^ (T + 1) := Nat.pow_lt_pow_right (by decide) (by omega)
  apply BitVec.eq_of_getLsbD_eq
  intro i hi
  rw [BitVec.getLsbD_and, BitVec.getLsbD_xor, BitVec.getLsbD_allOnes, decide_eq_true hi]
  have e1 : b.getLsbD i = (2 ^ (T + 1) * q + 2 ^ T).testBit i := by rw [← hq]; rfl
  have e2 : (b - 1#32).getLsbD i = (2 ^ (T + 1) * q + (2 ^ T - 1)).testBit i := by rw [← hsub]; rfl
  rw [e1, e2, Nat.testBit_two_pow_mul_add _ p1, Nat.testBit_two_pow_mul_add _ (by omega)]
  rw [BitVec.getLsbD_ofNat, decide_eq_true hi, Bool.true_and, Nat.testBit_two_pow_sub_one]
  by_cases c : i < T + 1
  · rw [if_pos c, if_pos c, Nat.testBit_two_pow]
    try rw [Nat.testBit_two_pow_sub_one]
    by_cases d : T = i
    · subst d; simp
    · simp [d]
  · rw [if_neg c, if_neg c]
    rw [show decide (i < T) = false from decide_eq_false (by omega)]
    cases q.testBit (i - (T + 1)) <;> rfl
theorem low_mask32 (v : Int32) (T : Nat) (hT : T < 32) (h1 : v.toBitVec.getLsbD T = true) (h2 : ∀ i, i < T → v.toBitVec.getLsbD i = false) : ((v ^^^ (-1 : Int32)) &&& (v - (1 : Int32))).toInt = ((2 ^ T - 1 : Nat) : Int) := by
  have e : ((v ^^^ (-1 : Int32)) &&& (v - (1 : Int32))).toBitVec = BitVec.ofNat 32 (2 ^ T - 1) := low_mask v.toBitVec T hT h1 h2
  have hp := pow_top T hT
  show ((v ^^^ (-1 : Int32)) &&& (v - (1 : Int32))).toBitVec.toInt = _
  have p32 : 2 ^ 32 = 4294967296 := rfl
  rw [e, BitVec.toInt_eq_toNat_cond, BitVec.toNat_ofNat, Nat.mod_eq_of_lt (by omega), if_pos (by omega)]
theorem low_lo (w : Int64) (i : Nat) (hi : i < 32) : w.toInt32.toBitVec.getLsbD i = bt w i := by
  unfold bt
  rw [Int64.toBitVec_toInt32, BitVec.getLsbD_signExtend]
  simp [hi, show i < 64 by omega]
theorem low_hi (w : Int64) (i : Nat) (hi : i < 32) : (XT.ushrL w (32 : Int32)).toInt32.toBitVec.getLsbD i = bt w (i + 32) := by
  rw [low_lo _ _ hi]
  unfold bt XT.ushrL
  rw [show ((32 : Int32).toInt64.toUInt64 &&& Int64.toUInt64 63) = (32 : UInt64) by decide]
  show ((w.toUInt64 >>> (32 : UInt64)).toBitVec).getLsbD i = _
  rw [UInt64.toBitVec_shiftRight, show ((32 : UInt64).toBitVec % 64) = 32#64 by decide, BitVec.ushiftRight_eq', show (32#64 : BitVec 64).toNat = 32 from rfl, BitVec.getLsbD_ushiftRight, Nat.add_comm]
  rfl
theorem lv_zero (n j : Nat) : Lv (List.replicate n 0) (fun _ => False) j := by
  intro i hi
  have e : lb (List.replicate n 0) i = false := by
    unfold lb
    rw [List.getD_eq_getElem?_getD, List.getElem?_replicate]
    split <;> exact bt_zero _
  rw [e]
  exact ⟨fun q => (by cases q), fun ⟨s, q, _⟩ => q.elim⟩
theorem own_good_1 (L0 L1 cap : Nat) (h1 : cap ≤ 64 * L0) (h2 : L0 = 1) (h3 : L0 ≤ 64 * L1) (h4 : L0 < 1000) : Good cap (fun _ => False) [List.replicate L0 0] := by
  refine ⟨⟨by simp, ?_, ?_, ?_, ?_, by simp⟩, fun s q => q.elim, ?_⟩
  · intro W hW; cases hW; simpa using h1
  · intro j W V hW hV; cases hV
  · intro W hW; cases hW; simpa using h2
  · intro j W hW
    match j, hW with
    | 0, hW => cases hW; simp; omega
    | n + 1, hW => cases hW
  · intro j W hW
    match j, hW with
    | 0, hW => cases hW; exact lv_zero _ _
    | n + 1, hW => cases hW
theorem own_good_2 (L0 L1 cap : Nat) (h1 : cap ≤ 64 * L0) (h2 : L1 = 1) (h3 : L0 ≤ 64 * L1) (h4 : L0 < 1000) : Good cap (fun _ => False) [List.replicate L0 0, List.replicate L1 0] := by
  refine ⟨⟨by simp, ?_, ?_, ?_, ?_, by simp⟩, fun s q => q.elim, ?_⟩
  · intro W hW; cases hW; simpa using h1
  · intro j W V hW hV
    match j, hW, hV with
    | 0, hW, hV => cases hW; cases hV; simpa using h3
    | n + 1, hW, hV => cases hV
  · intro W hW; cases hW; simpa using h2
  · intro j W hW
    match j, hW with
    | 0, hW => cases hW; simp; omega
    | 1, hW => cases hW; simp; omega
    | n + 2, hW => cases hW
  · intro j W hW
    match j, hW with
    | 0, hW => cases hW; exact lv_zero _ _
    | 1, hW => cases hW; exact lv_zero _ _
    | n + 2, hW => cases hW
theorem own_good_3 (L0 L1 cap : Nat) (h1 : cap ≤ 64 * L0) (h2 : L1 ≤ 64) (h3 : L0 ≤ 64 * L1) (h4 : L0 < 1000) : Good cap (fun _ => False) [List.replicate L0 0, List.replicate L1 0, List.replicate 1 0] := by
  refine ⟨⟨by simp, ?_, ?_, ?_, ?_, by simp⟩, fun s q => q.elim, ?_⟩
  · intro W hW; cases hW; simpa using h1
  · intro j W V hW hV
    match j, hW, hV with
    | 0, hW, hV => cases hW; cases hV; simpa using h3
    | 1, hW, hV => cases hW; cases hV; simpa using h2
    | n + 2, hW, hV => cases hV
  · intro W hW; cases hW; rfl
  · intro j W hW
    match j, hW with
    | 0, hW => cases hW; simp; omega
    | 1, hW => cases hW; simp; omega
    | 2, hW => cases hW; simp
    | n + 3, hW => cases hW
  · intro j W hW
    match j, hW with
    | 0, hW => cases hW; exact lv_zero _ _
    | 1, hW => cases hW; exact lv_zero _ _
    | 2, hW => cases hW; exact lv_zero 1 _
    | n + 3, hW => cases hW
def SS (Z : State) (h : Heap) (n0 : Nat) (o lv : Nat) (as : List Nat) (Ws : List (List Int64)) : Prop :=
  Exa Z h o "com/example/curtail/curtail/SlotSet" ∧ Fld Z h o "com/example/curtail/curtail/SlotSet" "levels" "[[J" (.ref lv) ∧ ArR Z h lv (.array .long) "[J" (as.map Value.ref) ∧ as.length = Ws.length ∧ (∀ (j : Nat) (a : Nat) (W : List Int64), as[j]? = some a → Ws[j]? = some W → ArJ Z h a W) ∧ (∀ (j : Nat) (a : Nat), as[j]? = some a → n0 ≤ a ∧ o < a ∧ lv < a) ∧ (∀ (i j : Nat) (a b : Nat), i < j → as[i]? = some a → as[j]? = some b → a < b)
theorem SS.at {Z : State} {h : Heap} {n0 : Nat} {o lv : Nat} {as : List Nat} {Ws : List (List Int64)} (H : SS Z h n0 o lv as Ws) {j : Nat} {W : List Int64} (hW : Ws[j]? = some W) : ∃ a, as[j]? = some a ∧ (as.map Value.ref)[j]? = some (.ref a) ∧ ArJ Z h a W ∧ n0 ≤ a := by
  obtain ⟨-, -, -, h4, h5, h6, -⟩ := H
  have hj : j < as.length := by rw [h4]; exact (List.getElem?_eq_some_iff.mp hW).1
  have e : as[j]? = some as[j] := List.getElem?_eq_getElem hj
  exact ⟨as[j], e, by rw [List.getElem?_map, e]; rfl, h5 j _ W e hW, (h6 j _ e).1⟩
theorem SS.set {Z : State} {h h' : Heap} {n0 : Nat} {o lv : Nat} {as : List Nat} {Ws : List (List Int64)} (H : SS Z h n0 o lv as Ws) {j : Nat} {a : Nat} {W' : List Int64} (ha : as[j]? = some a) (K : Keep h h' [a]) (A : ArJ Z h' a W') : SS Z h' n0 o lv as (Ws.set j W') := by
  obtain ⟨h1, h2, h3, h4, h5, h6, h7⟩ := H
  have ba := h6 j a ha
  refine ⟨h1.keep K, h2.keep K (nm1 (by omega)), h3.keep K (nm1 (by omega)), by rw [List.length_set]; exact h4, ?_, h6, h7⟩
  intro i b V hb hV
  have hj : j < Ws.length := by rw [← h4]; exact (List.getElem?_eq_some_iff.mp ha).1
  by_cases c : j = i
  · subst c
    rw [List.getElem?_set_self hj] at hV
    cases hV
    cases ha.symm.trans hb
    exact A
  · rw [List.getElem?_set_ne c] at hV
    refine (h5 i b V hb hV).keep K ?_
    have : b ≠ a := by
      rcases Nat.lt_or_gt_of_ne c with q | q
      · have := h7 j i a b q ha hb; omega
      · have := h7 i j b a q hb ha; omega
    simp only [List.mem_cons, List.not_mem_nil, or_false]; exact this
theorem ss_div {x : Int32} {n : Nat} (hx : x.toInt = (n : Nat)) : (x / (64 : Int32)).toInt = ((n / 64 : Nat) : Int) := by
  have := (c_idiv x (64 : Int32) 64 rfl (by decide)).1 (by omega)
  rw [this, hx]; omega
theorem ss_mul {x t : Int32} {n T : Nat} (hx : x.toInt = (n : Nat)) (ht : t.toInt = (T : Nat)) (hn : n < 1000000) (hT : T < 64) : (x * (64 : Int32) + t).toInt = ((64 * n + T : Nat) : Int) := by
  have e : (64 : Int32).toInt = 64 := rfl
  have e1 : (x * (64 : Int32)).toInt = x.toInt * 64 := by rw [i32_mul (by rw [e, hx]; omega) (by rw [e, hx]; omega), e]
  rw [i32_add (by omega) (by omega)]; omega
theorem ss_get {W : List Int64} {i : Nat} (h : i < W.length) : W[i]? = some (W.getD i 0) := by rw [List.getElem?_eq_getElem h, List.getD_eq_getElem?_getD, List.getElem?_eq_getElem h]; rfl
theorem own_nz {z : Int32} {n : Nat} (h : z.toInt = (n : Nat)) (h0 : 0 < n) : z ≠ 0 := by
  rintro rfl
  rw [show (0 : Int32).toInt = 0 from rfl] at h; omega
theorem own_rem {z x : Int32} {n : Nat} (h : z.toInt = (n : Nat)) (h0 : 0 < n) : ∃ m : Nat, ((x &&& (2147483647 : Int32)) % z).toInt = (m : Nat) ∧ m < n := by
  have a1 := c_and x (2147483647 : Int32) (by decide)
  have a2 := (c_iremV (x &&& (2147483647 : Int32)) z).1 a1.1 (by omega)
  exact ⟨((x &&& (2147483647 : Int32)) % z).toInt.toNat, by omega, by omega⟩
theorem good_iff {cap : Nat} {S S' : Nat → Prop} {Ws : List (List Int64)} (h : ∀ s, S s ↔ S' s) (G : Good cap S Ws) : Good cap S' Ws := by
  rw [show S' = S from funext fun s => propext (h s).symm]; exact G
theorem own_b4_0 : decode jdk_29_method_65_code 0 = .ok (.iload_n 0, 1) := by decide +kernel
theorem own_b4_1 : decode jdk_29_method_65_code 1 = .ok (.iload_n 1, 1) := by decide +kernel
theorem own_b4_2 : decode jdk_29_method_65_code 2 = .ok (.if_icmp .lt 7, 3) := by decide +kernel
theorem own_b4_5 : decode jdk_29_method_65_code 5 = .ok (.iload_n 0, 1) := by decide +kernel
theorem own_b4_6 : decode jdk_29_method_65_code 6 = .ok (.goto 4, 3) := by decide +kernel
theorem own_b4_9 : decode jdk_29_method_65_code 9 = .ok (.iload_n 1, 1) := by decide +kernel
theorem own_b4_10 : decode jdk_29_method_65_code 10 = .ok (.ireturn, 1) := by decide +kernel
theorem own_pf_b4 : plainFor (⟨"java/lang/Math", "max", "(II)I"⟩ : MethodName) = true := by first | exact plainFor_of_name (by first | (simp [plainName, overriddenIn, x]; done) | decide +kernel) | decide +kernel
set_option maxRecDepth 65536 in
set_option maxHeartbeats 40000000 in
theorem own_max (l : Launch) (Z : State) (a0 : Array Value) (hw : ∀ d ∈ tables_1, d.before a0 Z = true) (n0 : Nat) (h : Heap) (x z : Int32) :
    Con l Z (⟨"java/lang/Math", "max", "(II)I"⟩ : MethodName) jdk_29_method_65_code 2 (some .int) ({ frames := 0, cells := 0, slots := 0, locals := 0 } : Room) n0 #[(.int x), (.int z)] h (R1 fun r h' => r = .int (max32 x z) ∧ h = h') := by
  refine Con.of (ls := [.val (.int x), .val (.int z)]) own_pf_b4 (fun m => by first | (simp [entryFrame, mkF, argsToLocals, Value.category]; done) | rfl) fun k K => ?_
  refine WP.iloadN K 1 own_b4_0 rfl rfl ?_
  refine WP.iloadN K 2 own_b4_1 rfl rfl ?_
  refine WP.icmp_lt K 9 5 own_b4_2 (by decide) rfl (fun c2 => ?_) (fun c2 => ?_)
  · skip
    refine WP.iloadN K 10 own_b4_9 rfl rfl ?_
    refine WP.iret K rfl (Or.inl rfl) rfl own_b4_10 ?_ (by decide) (by decide)
    refine ⟨_, rfl, ?_, rfl⟩
    simp only [max32]; congr 1; split <;> first | rfl | exact i32_eq (by omega) | (exfalso; omega)
  · skip
    refine WP.iloadN K 6 own_b4_5 rfl rfl ?_
    refine WP.goto K 10 own_b4_6 (by decide) ?_
    refine WP.iret K rfl (Or.inl rfl) rfl own_b4_10 ?_ (by decide) (by decide)
    refine ⟨_, rfl, ?_, rfl⟩
    simp only [max32]; congr 1; split <;> first | rfl | exact i32_eq (by omega) | (exfalso; omega)
theorem own_b1_0 : decode jdk_29_method_69_code 0 = .ok (.iload_n 0, 1) := by decide +kernel
theorem own_b1_1 : decode jdk_29_method_69_code 1 = .ok (.iload_n 1, 1) := by decide +kernel
theorem own_b1_2 : decode jdk_29_method_69_code 2 = .ok (.if_icmp .gt 7, 3) := by decide +kernel
theorem own_b1_5 : decode jdk_29_method_69_code 5 = .ok (.iload_n 0, 1) := by decide +kernel
theorem own_b1_6 : decode jdk_29_method_69_code 6 = .ok (.goto 4, 3) := by decide +kernel
theorem own_b1_9 : decode jdk_29_method_69_code 9 = .ok (.iload_n 1, 1) := by decide +kernel
theorem own_b1_10 : decode jdk_29_method_69_code 10 = .ok (.ireturn, 1) := by decide +kernel
theorem own_pf_b1 : plainFor (⟨"java/lang/Math", "min", "(II)I"⟩ : MethodName) = true := by first | exact plainFor_of_name (by first | (simp [plainName, overriddenIn, x]; done) | decide +kernel) | decide +kernel
set_option maxRecDepth 65536 in
set_option maxHeartbeats 40000000 in
theorem own_min (l : Launch) (Z : State) (a0 : Array Value) (hw : ∀ d ∈ tables_1, d.before a0 Z = true) (n0 : Nat) (h : Heap) (x z : Int32) :
    Con l Z (⟨"java/lang/Math", "min", "(II)I"⟩ : MethodName) jdk_29_method_69_code 2 (some .int) ({ frames := 0, cells := 0, slots := 0, locals := 0 } : Room) n0 #[(.int x), (.int z)] h (R1 fun r h' => r = .int (min32 x z) ∧ h = h') := by
  refine Con.of (ls := [.val (.int x), .val (.int z)]) own_pf_b1 (fun m => by first | (simp [entryFrame, mkF, argsToLocals, Value.category]; done) | rfl) fun k K => ?_
  refine WP.iloadN K 1 own_b1_0 rfl rfl ?_
  refine WP.iloadN K 2 own_b1_1 rfl rfl ?_
  refine WP.icmp_gt K 9 5 own_b1_2 (by decide) rfl (fun c2 => ?_) (fun c2 => ?_)
  · skip
    refine WP.iloadN K 10 own_b1_9 rfl rfl ?_
    refine WP.iret K rfl (Or.inl rfl) rfl own_b1_10 ?_ (by decide) (by decide)
    refine ⟨_, rfl, ?_, rfl⟩
    simp only [min32]; congr 1; split <;> first | rfl | exact i32_eq (by omega) | (exfalso; omega)
  · skip
    refine WP.iloadN K 6 own_b1_5 rfl rfl ?_
    refine WP.goto K 10 own_b1_6 (by decide) ?_
    refine WP.iret K rfl (Or.inl rfl) rfl own_b1_10 ?_ (by decide) (by decide)
    refine ⟨_, rfl, ?_, rfl⟩
    simp only [min32]; congr 1; split <;> first | rfl | exact i32_eq (by omega) | (exfalso; omega)
theorem own_b2_0 : decode prog_175_method_1_code 0 = .ok (.aload_n 0, 1) := by decide +kernel
theorem own_b2_1 : decode prog_175_method_1_code 1 = .ok (.invokespecial 1, 3) := by decide +kernel
theorem own_b2_4 : decode prog_175_method_1_code 4 = .ok (.iconst 1, 1) := by decide +kernel
theorem own_b2_5 : decode prog_175_method_1_code 5 = .ok (.istore_n 2, 1) := by decide +kernel
theorem own_b2_6 : decode prog_175_method_1_code 6 = .ok (.ldc2_w 9, 3) := by decide +kernel
theorem own_b2_9 : decode prog_175_method_1_code 9 = .ok (.lstore_n 3, 1) := by decide +kernel
theorem own_b2_10 : decode prog_175_method_1_code 10 = .ok (.lload_n 3, 1) := by decide +kernel
theorem own_b2_11 : decode prog_175_method_1_code 11 = .ok (.iload_n 1, 1) := by decide +kernel
theorem own_b2_12 : decode prog_175_method_1_code 12 = .ok (.i2l, 1) := by decide +kernel
theorem own_b2_13 : decode prog_175_method_1_code 13 = .ok (.lcmp, 1) := by decide +kernel
theorem own_b2_14 : decode prog_175_method_1_code 14 = .ok (.ifCond .ge 15, 3) := by decide +kernel
theorem own_b2_17 : decode prog_175_method_1_code 17 = .ok (.iinc 2 1, 3) := by decide +kernel
theorem own_b2_20 : decode prog_175_method_1_code 20 = .ok (.lload_n 3, 1) := by decide +kernel
theorem own_b2_21 : decode prog_175_method_1_code 21 = .ok (.ldc2_w 9, 3) := by decide +kernel
theorem own_b2_24 : decode prog_175_method_1_code 24 = .ok (.lmul, 1) := by decide +kernel
theorem own_b2_25 : decode prog_175_method_1_code 25 = .ok (.lstore_n 3, 1) := by decide +kernel
theorem own_b2_26 : decode prog_175_method_1_code 26 = .ok (.goto (-16), 3) := by decide +kernel
theorem own_b2_29 : decode prog_175_method_1_code 29 = .ok (.aload_n 0, 1) := by decide +kernel
theorem own_b2_30 : decode prog_175_method_1_code 30 = .ok (.iload_n 2, 1) := by decide +kernel
theorem own_b2_31 : decode prog_175_method_1_code 31 = .ok (.anewarray 11, 3) := by decide +kernel
theorem own_b2_34 : decode prog_175_method_1_code 34 = .ok (.putfield 13, 3) := by decide +kernel
theorem own_b2_37 : decode prog_175_method_1_code 37 = .ok (.iload_n 1, 1) := by decide +kernel
theorem own_b2_38 : decode prog_175_method_1_code 38 = .ok (.istore_n 3, 1) := by decide +kernel
theorem own_b2_39 : decode prog_175_method_1_code 39 = .ok (.iconst 0, 1) := by decide +kernel
theorem own_b2_40 : decode prog_175_method_1_code 40 = .ok (.istore 4, 2) := by decide +kernel
theorem own_b2_42 : decode prog_175_method_1_code 42 = .ok (.iload 4, 2) := by decide +kernel
theorem own_b2_44 : decode prog_175_method_1_code 44 = .ok (.iload_n 2, 1) := by decide +kernel
theorem own_b2_45 : decode prog_175_method_1_code 45 = .ok (.if_icmp .ge 40, 3) := by decide +kernel
theorem own_b2_48 : decode prog_175_method_1_code 48 = .ok (.aload_n 0, 1) := by decide +kernel
theorem own_b2_49 : decode prog_175_method_1_code 49 = .ok (.getfield 13, 3) := by decide +kernel
theorem own_b2_52 : decode prog_175_method_1_code 52 = .ok (.iload 4, 2) := by decide +kernel
theorem own_b2_54 : decode prog_175_method_1_code 54 = .ok (.iconst 1, 1) := by decide +kernel
theorem own_b2_55 : decode prog_175_method_1_code 55 = .ok (.iload_n 3, 1) := by decide +kernel
theorem own_b2_56 : decode prog_175_method_1_code 56 = .ok (.bipush 64, 2) := by decide +kernel
theorem own_b2_58 : decode prog_175_method_1_code 58 = .ok (.iadd, 1) := by decide +kernel
theorem own_b2_59 : decode prog_175_method_1_code 59 = .ok (.iconst 1, 1) := by decide +kernel
theorem own_b2_60 : decode prog_175_method_1_code 60 = .ok (.isub, 1) := by decide +kernel
theorem own_b2_61 : decode prog_175_method_1_code 61 = .ok (.bipush 64, 2) := by decide +kernel
theorem own_b2_63 : decode prog_175_method_1_code 63 = .ok (.idiv, 1) := by decide +kernel
theorem own_b2_64 : decode prog_175_method_1_code 64 = .ok (.invokestatic 19, 3) := by decide +kernel
theorem own_b2_67 : decode prog_175_method_1_code 67 = .ok (.newarray .long, 2) := by decide +kernel
theorem own_b2_69 : decode prog_175_method_1_code 69 = .ok (.aastore, 1) := by decide +kernel
theorem own_b2_70 : decode prog_175_method_1_code 70 = .ok (.aload_n 0, 1) := by decide +kernel
theorem own_b2_71 : decode prog_175_method_1_code 71 = .ok (.getfield 13, 3) := by decide +kernel
theorem own_b2_74 : decode prog_175_method_1_code 74 = .ok (.iload 4, 2) := by decide +kernel
theorem own_b2_76 : decode prog_175_method_1_code 76 = .ok (.aaload, 1) := by decide +kernel
theorem own_b2_77 : decode prog_175_method_1_code 77 = .ok (.arraylength, 1) := by decide +kernel
theorem own_b2_78 : decode prog_175_method_1_code 78 = .ok (.istore_n 3, 1) := by decide +kernel
theorem own_b2_79 : decode prog_175_method_1_code 79 = .ok (.iinc 4 1, 3) := by decide +kernel
theorem own_b2_82 : decode prog_175_method_1_code 82 = .ok (.goto (-40), 3) := by decide +kernel
theorem own_b2_85 : decode prog_175_method_1_code 85 = .ok (.return_, 1) := by decide +kernel
theorem own_pf_b2 : plainFor (⟨"com/example/curtail/curtail/SlotSet", "<init>", "(I)V"⟩ : MethodName) = true := by first | exact plainFor_of_name (by first | (simp [plainName, overriddenIn, x]; done) | decide +kernel) | decide +kernel
theorem own_pd_0 : parseMethodDescriptor "(II)I" = some ⟨[.int, .int], some .int⟩ := by decide +kernel
set_option maxRecDepth 65536 in
set_option maxHeartbeats 40000000 in
theorem own_ctor (l : Launch) (Z : State) (a0 : Array Value) (hw : ∀ d ∈ tables_1, d.before a0 Z = true) (n0 : Nat) (h : Heap) (o : Nat) (cp : Int32) (cap : Nat) (hc : cp.toInt = (cap : Nat)) (hc0 : 0 < cap) (hc1 : cap ≤ 16384) (Z0 : n0 ≤ h.size) (Ex : Exa Z h o "com/example/curtail/curtail/SlotSet") (v0 : Value) (Fl : Fld Z h o "com/example/curtail/curtail/SlotSet" "levels" "[[J" v0) (n0_o : n0 ≤ o) :
    Con l Z (⟨"com/example/curtail/curtail/SlotSet", "<init>", "(I)V"⟩ : MethodName) prog_175_method_1_code 5 none ({ frames := 2, cells := 4, slots := 300, locals := 28 } : Room) n0 #[(.ref o), (.int cp)] h (R0 fun h' => Keep h h' [o] ∧ ∃ lv as Ws, n0 ≤ lv ∧ h.size ≤ lv ∧ SS Z h' n0 o lv as Ws ∧ Good cap (fun _ => False) Ws) := by
  refine Con.of (ls := [.val (.ref o), .val (.int cp), .unset, .unset, .unset]) own_pf_b2 (fun m => by first | (simp [entryFrame, mkF, argsToLocals, Value.category]; done) | rfl) fun k K => ?_
  have k_0 : (0 : Int32).toInt = 0 := rfl
  have k_1 : (1 : Int32).toInt = 1 := rfl
  have k_64 : (64 : Int32).toInt = 64 := rfl
  have kL_64 : (64 : Int64).toInt = 64 := rfl
  have Kp := Keep.refl h [o]
  obtain ⟨L0, eL0⟩ : ∃ L0, L0 = (cap + 63) / 64 := ⟨_, rfl⟩
  obtain ⟨L1, eL1⟩ : ∃ L1, L1 = (L0 + 63) / 64 := ⟨_, rfl⟩
  have hL0 : 1 ≤ L0 ∧ L0 ≤ 256 := by omega
  have hL1 : 1 ≤ L1 ∧ L1 ≤ 4 := by omega
  have ci : cp.toInt64.toInt = (cap : Nat) := by rw [c_i2l]; exact hc
  have r1 : ((64 : Int64) * (64 : Int64)).toInt = 4096 := by decide
  have r2 : (((64 : Int64) * (64 : Int64)) * (64 : Int64)).toInt = 262144 := by decide
  rcases (show cap ≤ 64 ∨ (64 < cap ∧ cap ≤ 4096) ∨ 4096 < cap by omega) with cs | cs | cs
  · skip
    refine WP.aloadN K 1 own_b2_0 rfl rfl rfl ?_
    refine WP.initO K 4 0 (hw _ (List.mem_of_getElem? (i := 11) rfl)) (hw _ (List.mem_of_getElem? (i := 12) rfl)) (hw _ (List.mem_of_getElem? (i := 13) rfl)) own_b2_1 rfl rfl (by decide) (Nat.le_of_eq rfl) (by decide) ?_
    refine WP.iconst K (1 : Int32) 5 own_b2_4 rfl rfl ?_
    refine WP.istoreN K 6 [.val (.ref o), .val (.int cp), .val (.int (1 : Int32)), .unset, .unset] own_b2_5 rfl rfl ?_
    refine WP.ldc2J K (v := (64 : Int64)) 9 (hw _ (List.mem_of_getElem? (i := 14) rfl)) own_b2_6 rfl ?_
    refine WP.lstoreN K 10 [.val (.ref o), .val (.int cp), .val (.int (1 : Int32)), .val (.long (64 : Int64)), .second] own_b2_9 rfl rfl ?_
    refine WP.lloadN K 11 own_b2_10 rfl rfl ?_
    refine WP.iloadN K 12 own_b2_11 rfl rfl ?_
    refine WP.i2l K 13 own_b2_12 rfl ?_
    refine WP.lcmp K 14 own_b2_13 rfl ?_
    refine WP.ifl_ge K 29 17 own_b2_14 (by decide) rfl (fun c14 => ?_) (fun c14 => ?_)
    · skip
      refine WP.aloadN K 30 own_b2_29 rfl rfl rfl ?_
      refine WP.iloadN K 31 own_b2_30 rfl rfl ?_
      refine WP.anewarrayA K 34 1 1 1 1 (et := .long) (C := "[J") (by decide) (hw _ (List.mem_of_getElem? (i := 15) rfl)) (hw _ (List.mem_of_getElem? (i := 16) rfl)) own_b2_31 rfl rfl (Nat.le_refl _) (by decide) rfl rfl (by decide) (by decide) (fun h1 lv z_lv E2 R_lv => ?_)
      have l_o_lv : @LT.lt Nat _ o lv := z_lv ▸ Ex.lt
      have n0_lv : @LE.le Nat _ n0 lv := z_lv ▸ Z0
      have s_lv : h.size ≤ lv := z_lv ▸ Kp.1
      have Z0 : n0 ≤ (h1).size := Nat.le_trans Z0 E2.1
      have Ex := Ex.ext E2
      have Fl := Fl.ext E2
      have Kp := Kp.ext E2
      have R_lv : ArR Z h1 lv (.array .long) "[J" [.null] := R_lv
      refine WP.putfield K (host := "") (a := o) 37 (Or.inl (hw _ (List.mem_of_getElem? (i := 17) rfl))) Via.refl Fl Ex (Or.inr ⟨(hw _ (List.mem_of_getElem? (i := 18) rfl)), rfl, rfl⟩) (hw _ (List.mem_of_getElem? (i := 6) rfl)) (ty := (.array (.array .long))) (by decide) rfl rfl own_b2_34 rfl n0_o (fun h3 W4 => ?_)
      have Z0 : n0 ≤ (h3).size := by rw [W4.size]; exact Z0
      have Ex := Ex.wr W4
      have Fl := Fl.same W4
      have Kp := Kp.wr W4 (Or.inl (by simp))
      have R_lv := R_lv.other W4 (ne_addr (by omega))
      refine WP.iloadN K 38 own_b2_37 rfl rfl ?_
      refine WP.istoreN K 39 [.val (.ref o), .val (.int cp), .val (.int (1 : Int32)), .val (.int cp), .unset] own_b2_38 rfl rfl ?_
      refine WP.iconst K (0 : Int32) 40 own_b2_39 rfl rfl ?_
      refine WP.istore K 42 [.val (.ref o), .val (.int cp), .val (.int (1 : Int32)), .val (.int cp), .val (.int (0 : Int32))] own_b2_40 rfl rfl ?_
      refine WP.iload K 44 own_b2_42 rfl rfl ?_
      refine WP.iloadN K 45 own_b2_44 rfl rfl ?_
      refine WP.icmp_ge K 85 48 own_b2_45 (by decide) rfl (fun c45 => ?_) (fun c45 => ?_)
      · skip
        exact absurd c45 (by decide)
      · skip
        refine WP.aloadN K 49 own_b2_48 rfl rfl rfl ?_
        refine WP.getfield K (host := "") 52 (Or.inl (hw _ (List.mem_of_getElem? (i := 17) rfl))) Via.refl Fl own_b2_49 rfl ?_
        refine WP.iload K 54 own_b2_52 rfl rfl ?_
        refine WP.iconst K (1 : Int32) 55 own_b2_54 rfl rfl ?_
        refine WP.iloadN K 56 own_b2_55 rfl rfl ?_
        refine WP.bipush K (64 : Int32) 58 own_b2_56 rfl rfl ?_
        refine WP.iadd K 59 own_b2_58 rfl ?_
        refine WP.iconst K (1 : Int32) 60 own_b2_59 rfl rfl ?_
        refine WP.isub K 61 own_b2_60 rfl ?_
        refine WP.bipush K (64 : Int32) 63 own_b2_61 rfl rfl ?_
        refine WP.idiv K 64 own_b2_63 rfl (by decide) ?_
        refine WP.callS K 67 1 1 2 [(.int (1 : Int32)), (.int (((cp + (64 : Int32)) - (1 : Int32)) / (64 : Int32)))] [(.int (0 : Int32)), (.ref lv)] (hw _ (List.mem_of_getElem? (i := 19) rfl)) (hw _ (List.mem_of_getElem? (i := 20) rfl)) (hw _ (List.mem_of_getElem? (i := 3) rfl)) (hw _ (List.mem_of_getElem? (i := 21) rfl)) (by decide) own_pd_0 rfl rfl rfl (by decide) (by decide) (Nat.le_of_eq rfl) rfl own_b2_64 rfl rfl rfl (by decide) (by decide) (own_max l Z a0 hw n0 h3 (1 : Int32) (((cp + (64 : Int32)) - (1 : Int32)) / (64 : Int32)) ) (r1_next fun r7 h5 q6 => ?_)
        obtain ⟨rfl, rfl⟩ := q6
        have ed0 : (((cp + (64 : Int32)) - (1 : Int32)) / (64 : Int32)).toInt = ((L0 : Nat) : Int) := by
          have e1 : (cp + (64 : Int32)).toInt = cp.toInt + 64 := i32_add (by omega) (by omega)
          have e2 : ((cp + (64 : Int32)) - (1 : Int32)).toInt = cp.toInt + 63 := by rw [i32_sub (by omega) (by omega)]; omega
          rw [(c_idiv _ (64 : Int32) 64 rfl (by decide)).1 (by omega), e2]; omega
        have em0 : (max32 (1 : Int32) (((cp + (64 : Int32)) - (1 : Int32)) / (64 : Int32))).toInt = ((L0 : Nat) : Int) := by have := max32_spec (1 : Int32) (((cp + (64 : Int32)) - (1 : Int32)) / (64 : Int32)); omega
        obtain ⟨z0, ez0⟩ : ∃ z, z = (max32 (1 : Int32) (((cp + (64 : Int32)) - (1 : Int32)) / (64 : Int32))) := ⟨_, rfl⟩
        rw [← ez0] at em0 ⊢
        refine WP.newarrayE K 69 L0 L0 2 (1 + L0) (hw _ (List.mem_of_getElem? (i := 22) rfl)) own_b2_67 rfl em0 (Nat.le_refl _) (by omega) rfl rfl (by decide) (by show _ ≤ 300; omega) (ad := "[J") (by decide) (fun h8 e0 z_e0 E9 V10 Y_e0 => ?_)
        have l_o_e0 : @LT.lt Nat _ o e0 := z_e0 ▸ Ex.lt
        have l_lv_e0 : @LT.lt Nat _ lv e0 := z_e0 ▸ R_lv.lt
        have n0_e0 : @LE.le Nat _ n0 e0 := z_e0 ▸ Z0
        have Z0 : n0 ≤ (h8).size := Nat.le_trans Z0 E9.1
        have Ex := Ex.ext E9
        have Fl := Fl.ext E9
        have Kp := Kp.ext E9
        have R_lv := R_lv.ext E9
        have A_e0 := ArJ.of_new V10
        refine WP.aastore K 70 0 R_lv rfl (R_lv.sto (Ins.self Y_e0)) rfl rfl (by simp) own_b2_69 rfl n0_lv (fun h11 K12 R_lv => ?_)
        have Z0 : n0 ≤ (h11).size := Nat.le_trans Z0 K12.1
        have Ex := Ex.keep K12
        have Fl := Fl.keep K12 (nm1 (by omega))
        have Kp := Kp.trans K12 (ks1 (by first | (refine Or.inl ?_; simp; done) | (refine Or.inr ?_; omega)))
        have A_e0 := A_e0.keep K12 (nm1 (by omega))
        have Y_e0 := Y_e0.keep K12
        have R_lv : ArR Z h11 lv (.array .long) "[J" [.ref e0] := R_lv
        refine WP.aloadN K 71 own_b2_70 rfl rfl rfl ?_
        refine WP.getfield K (host := "") 74 (Or.inl (hw _ (List.mem_of_getElem? (i := 17) rfl))) Via.refl Fl own_b2_71 rfl ?_
        refine WP.iload K 76 own_b2_74 rfl rfl ?_
        refine WP.aaload K 77 0 R_lv.v rfl rfl rfl own_b2_76 rfl ?_
        refine WP.arraylength K z0 78 A_e0 (by rw [em0]; simp) own_b2_77 rfl ?_
        refine WP.istoreN K 79 [.val (.ref o), .val (.int cp), .val (.int (1 : Int32)), .val (.int z0), .val (.int (0 : Int32))] own_b2_78 rfl rfl ?_
        refine WP.iinc K (1 : Int32) 82 [.val (.ref o), .val (.int cp), .val (.int (1 : Int32)), .val (.int z0), .val (.int ((0 : Int32) + (1 : Int32)))] own_b2_79 rfl rfl rfl rfl ?_
        refine WP.goto K 42 own_b2_82 (by decide) ?_
        rw [show ((0 : Int32) + (1 : Int32)) = (1 : Int32) from rfl]
        refine WP.iload K 44 own_b2_42 rfl rfl ?_
        refine WP.iloadN K 45 own_b2_44 rfl rfl ?_
        refine WP.icmp_ge K 85 48 own_b2_45 (by decide) rfl (fun c45 => ?_) (fun c45 => ?_)
        · skip
          refine WP.retV K rfl own_b2_85 ?_ (by decide) (by show _ ≤ 300; omega)
          have hsz : h.size ≤ lv := by omega
          refine ⟨rfl, Kp, lv, [e0], [List.replicate L0 (0 : Int64)], n0_lv, hsz, ⟨Ex, Fl, R_lv, rfl, ?_, ?_, ?_⟩, own_good_1 L0 L1 cap (by omega) (by omega) (by omega) (by omega)⟩
          · intro j a W ha hW
            match j, ha, hW with
            | 0, ha, hW => cases ha; cases hW; exact A_e0
            | n + 1, ha, hW => cases ha
          · intro j a ha
            match j, ha with
            | 0, ha => cases ha; exact ⟨n0_e0, by omega, by omega⟩
            | n + 1, ha => cases ha
          · intro i j a b hij ha hb
            match i, j, hij, ha, hb with
            | n + 1, _, _, ha, _ => cases ha
            | _, n + 1, _, _, hb => cases hb
        · skip
          exact absurd c45 (by decide)
    · skip
      exfalso; omega
  · skip
    refine WP.aloadN K 1 own_b2_0 rfl rfl rfl ?_
    refine WP.initO K 4 0 (hw _ (List.mem_of_getElem? (i := 11) rfl)) (hw _ (List.mem_of_getElem? (i := 12) rfl)) (hw _ (List.mem_of_getElem? (i := 13) rfl)) own_b2_1 rfl rfl (by decide) (Nat.le_of_eq rfl) (by decide) ?_
    refine WP.iconst K (1 : Int32) 5 own_b2_4 rfl rfl ?_
    refine WP.istoreN K 6 [.val (.ref o), .val (.int cp), .val (.int (1 : Int32)), .unset, .unset] own_b2_5 rfl rfl ?_
    refine WP.ldc2J K (v := (64 : Int64)) 9 (hw _ (List.mem_of_getElem? (i := 14) rfl)) own_b2_6 rfl ?_
    refine WP.lstoreN K 10 [.val (.ref o), .val (.int cp), .val (.int (1 : Int32)), .val (.long (64 : Int64)), .second] own_b2_9 rfl rfl ?_
    refine WP.lloadN K 11 own_b2_10 rfl rfl ?_
    refine WP.iloadN K 12 own_b2_11 rfl rfl ?_
    refine WP.i2l K 13 own_b2_12 rfl ?_
    refine WP.lcmp K 14 own_b2_13 rfl ?_
    refine WP.ifl_ge K 29 17 own_b2_14 (by decide) rfl (fun c14 => ?_) (fun c14 => ?_)
    · skip
      exfalso; omega
    · skip
      refine WP.iinc K (1 : Int32) 20 [.val (.ref o), .val (.int cp), .val (.int ((1 : Int32) + (1 : Int32))), .val (.long (64 : Int64)), .second] own_b2_17 rfl rfl rfl rfl ?_
      refine WP.lloadN K 21 own_b2_20 rfl rfl ?_
      refine WP.ldc2J K (v := (64 : Int64)) 24 (hw _ (List.mem_of_getElem? (i := 14) rfl)) own_b2_21 rfl ?_
      refine WP.lmul K 25 own_b2_24 rfl ?_
      refine WP.lstoreN K 26 [.val (.ref o), .val (.int cp), .val (.int ((1 : Int32) + (1 : Int32))), .val (.long ((64 : Int64) * (64 : Int64))), .second] own_b2_25 rfl rfl ?_
      refine WP.goto K 10 own_b2_26 (by decide) ?_
      refine WP.lloadN K 11 own_b2_10 rfl rfl ?_
      refine WP.iloadN K 12 own_b2_11 rfl rfl ?_
      refine WP.i2l K 13 own_b2_12 rfl ?_
      refine WP.lcmp K 14 own_b2_13 rfl ?_
      refine WP.ifl_ge K 29 17 own_b2_14 (by decide) rfl (fun c14 => ?_) (fun c14 => ?_)
      · skip
        rw [show ((1 : Int32) + (1 : Int32)) = (2 : Int32) from rfl]
        refine WP.aloadN K 30 own_b2_29 rfl rfl rfl ?_
        refine WP.iloadN K 31 own_b2_30 rfl rfl ?_
        refine WP.anewarrayA K 34 2 2 1 2 (et := .long) (C := "[J") (by decide) (hw _ (List.mem_of_getElem? (i := 15) rfl)) (hw _ (List.mem_of_getElem? (i := 16) rfl)) own_b2_31 rfl rfl (Nat.le_refl _) (by decide) rfl rfl (by decide) (by decide) (fun h13 lv z_lv E14 R_lv => ?_)
        have l_o_lv : @LT.lt Nat _ o lv := z_lv ▸ Ex.lt
        have n0_lv : @LE.le Nat _ n0 lv := z_lv ▸ Z0
        have s_lv : h.size ≤ lv := z_lv ▸ Kp.1
        have Z0 : n0 ≤ (h13).size := Nat.le_trans Z0 E14.1
        have Ex := Ex.ext E14
        have Fl := Fl.ext E14
        have Kp := Kp.ext E14
        have R_lv : ArR Z h13 lv (.array .long) "[J" [.null, .null] := R_lv
        refine WP.putfield K (host := "") (a := o) 37 (Or.inl (hw _ (List.mem_of_getElem? (i := 17) rfl))) Via.refl Fl Ex (Or.inr ⟨(hw _ (List.mem_of_getElem? (i := 18) rfl)), rfl, rfl⟩) (hw _ (List.mem_of_getElem? (i := 6) rfl)) (ty := (.array (.array .long))) (by decide) rfl rfl own_b2_34 rfl n0_o (fun h15 W16 => ?_)
        have Z0 : n0 ≤ (h15).size := by rw [W16.size]; exact Z0
        have Ex := Ex.wr W16
        have Fl := Fl.same W16
        have Kp := Kp.wr W16 (Or.inl (by simp))
        have R_lv := R_lv.other W16 (ne_addr (by omega))
        refine WP.iloadN K 38 own_b2_37 rfl rfl ?_
        refine WP.istoreN K 39 [.val (.ref o), .val (.int cp), .val (.int (2 : Int32)), .val (.int cp), .unset] own_b2_38 rfl rfl ?_
        refine WP.iconst K (0 : Int32) 40 own_b2_39 rfl rfl ?_
        refine WP.istore K 42 [.val (.ref o), .val (.int cp), .val (.int (2 : Int32)), .val (.int cp), .val (.int (0 : Int32))] own_b2_40 rfl rfl ?_
        refine WP.iload K 44 own_b2_42 rfl rfl ?_
        refine WP.iloadN K 45 own_b2_44 rfl rfl ?_
        refine WP.icmp_ge K 85 48 own_b2_45 (by decide) rfl (fun c45 => ?_) (fun c45 => ?_)
        · skip
          exact absurd c45 (by decide)
        · skip
          refine WP.aloadN K 49 own_b2_48 rfl rfl rfl ?_
          refine WP.getfield K (host := "") 52 (Or.inl (hw _ (List.mem_of_getElem? (i := 17) rfl))) Via.refl Fl own_b2_49 rfl ?_
          refine WP.iload K 54 own_b2_52 rfl rfl ?_
          refine WP.iconst K (1 : Int32) 55 own_b2_54 rfl rfl ?_
          refine WP.iloadN K 56 own_b2_55 rfl rfl ?_
          refine WP.bipush K (64 : Int32) 58 own_b2_56 rfl rfl ?_
          refine WP.iadd K 59 own_b2_58 rfl ?_
          refine WP.iconst K (1 : Int32) 60 own_b2_59 rfl rfl ?_
          refine WP.isub K 61 own_b2_60 rfl ?_
          refine WP.bipush K (64 : Int32) 63 own_b2_61 rfl rfl ?_
          refine WP.idiv K 64 own_b2_63 rfl (by decide) ?_
          refine WP.callS K 67 1 2 2 [(.int (1 : Int32)), (.int (((cp + (64 : Int32)) - (1 : Int32)) / (64 : Int32)))] [(.int (0 : Int32)), (.ref lv)] (hw _ (List.mem_of_getElem? (i := 19) rfl)) (hw _ (List.mem_of_getElem? (i := 20) rfl)) (hw _ (List.mem_of_getElem? (i := 3) rfl)) (hw _ (List.mem_of_getElem? (i := 21) rfl)) (by decide) own_pd_0 rfl rfl rfl (by decide) (by decide) (Nat.le_of_eq rfl) rfl own_b2_64 rfl rfl rfl (by decide) (by decide) (own_max l Z a0 hw n0 h15 (1 : Int32) (((cp + (64 : Int32)) - (1 : Int32)) / (64 : Int32)) ) (r1_next fun r19 h17 q18 => ?_)
          obtain ⟨rfl, rfl⟩ := q18
          have ed0 : (((cp + (64 : Int32)) - (1 : Int32)) / (64 : Int32)).toInt = ((L0 : Nat) : Int) := by
            have e1 : (cp + (64 : Int32)).toInt = cp.toInt + 64 := i32_add (by omega) (by omega)
            have e2 : ((cp + (64 : Int32)) - (1 : Int32)).toInt = cp.toInt + 63 := by rw [i32_sub (by omega) (by omega)]; omega
            rw [(c_idiv _ (64 : Int32) 64 rfl (by decide)).1 (by omega), e2]; omega
          have em0 : (max32 (1 : Int32) (((cp + (64 : Int32)) - (1 : Int32)) / (64 : Int32))).toInt = ((L0 : Nat) : Int) := by have := max32_spec (1 : Int32) (((cp + (64 : Int32)) - (1 : Int32)) / (64 : Int32)); omega
          obtain ⟨z0, ez0⟩ : ∃ z, z = (max32 (1 : Int32) (((cp + (64 : Int32)) - (1 : Int32)) / (64 : Int32))) := ⟨_, rfl⟩
          rw [← ez0] at em0 ⊢
          refine WP.newarrayE K 69 L0 L0 2 (2 + L0) (hw _ (List.mem_of_getElem? (i := 22) rfl)) own_b2_67 rfl em0 (Nat.le_refl _) (by omega) rfl rfl (by decide) (by show _ ≤ 300; omega) (ad := "[J") (by decide) (fun h20 e0 z_e0 E21 V22 Y_e0 => ?_)
          have l_o_e0 : @LT.lt Nat _ o e0 := z_e0 ▸ Ex.lt
          have l_lv_e0 : @LT.lt Nat _ lv e0 := z_e0 ▸ R_lv.lt
          have n0_e0 : @LE.le Nat _ n0 e0 := z_e0 ▸ Z0
          have Z0 : n0 ≤ (h20).size := Nat.le_trans Z0 E21.1
          have Ex := Ex.ext E21
          have Fl := Fl.ext E21
          have Kp := Kp.ext E21
          have R_lv := R_lv.ext E21
          have A_e0 := ArJ.of_new V22
          refine WP.aastore K 70 0 R_lv rfl (R_lv.sto (Ins.self Y_e0)) rfl rfl (by simp) own_b2_69 rfl n0_lv (fun h23 K24 R_lv => ?_)
          have Z0 : n0 ≤ (h23).size := Nat.le_trans Z0 K24.1
          have Ex := Ex.keep K24
          have Fl := Fl.keep K24 (nm1 (by omega))
          have Kp := Kp.trans K24 (ks1 (by first | (refine Or.inl ?_; simp; done) | (refine Or.inr ?_; omega)))
          have A_e0 := A_e0.keep K24 (nm1 (by omega))
          have Y_e0 := Y_e0.keep K24
          have R_lv : ArR Z h23 lv (.array .long) "[J" [.ref e0, .null] := R_lv
          refine WP.aloadN K 71 own_b2_70 rfl rfl rfl ?_
          refine WP.getfield K (host := "") 74 (Or.inl (hw _ (List.mem_of_getElem? (i := 17) rfl))) Via.refl Fl own_b2_71 rfl ?_
          refine WP.iload K 76 own_b2_74 rfl rfl ?_
          refine WP.aaload K 77 0 R_lv.v rfl rfl rfl own_b2_76 rfl ?_
          refine WP.arraylength K z0 78 A_e0 (by rw [em0]; simp) own_b2_77 rfl ?_
          refine WP.istoreN K 79 [.val (.ref o), .val (.int cp), .val (.int (2 : Int32)), .val (.int z0), .val (.int (0 : Int32))] own_b2_78 rfl rfl ?_
          refine WP.iinc K (1 : Int32) 82 [.val (.ref o), .val (.int cp), .val (.int (2 : Int32)), .val (.int z0), .val (.int ((0 : Int32) + (1 : Int32)))] own_b2_79 rfl rfl rfl rfl ?_
          refine WP.goto K 42 own_b2_82 (by decide) ?_
          rw [show ((0 : Int32) + (1 : Int32)) = (1 : Int32) from rfl]
          refine WP.iload K 44 own_b2_42 rfl rfl ?_
          refine WP.iloadN K 45 own_b2_44 rfl rfl ?_
          refine WP.icmp_ge K 85 48 own_b2_45 (by decide) rfl (fun c45 => ?_) (fun c45 => ?_)
          · skip
            exact absurd c45 (by decide)
          · skip
            refine WP.aloadN K 49 own_b2_48 rfl rfl rfl ?_
            refine WP.getfield K (host := "") 52 (Or.inl (hw _ (List.mem_of_getElem? (i := 17) rfl))) Via.refl Fl own_b2_49 rfl ?_
            refine WP.iload K 54 own_b2_52 rfl rfl ?_
            refine WP.iconst K (1 : Int32) 55 own_b2_54 rfl rfl ?_
            refine WP.iloadN K 56 own_b2_55 rfl rfl ?_
            refine WP.bipush K (64 : Int32) 58 own_b2_56 rfl rfl ?_
            refine WP.iadd K 59 own_b2_58 rfl ?_
            refine WP.iconst K (1 : Int32) 60 own_b2_59 rfl rfl ?_
            refine WP.isub K 61 own_b2_60 rfl ?_
            refine WP.bipush K (64 : Int32) 63 own_b2_61 rfl rfl ?_
            refine WP.idiv K 64 own_b2_63 rfl (by decide) ?_
            refine WP.callS K 67 2 (2 + L0) 2 [(.int (1 : Int32)), (.int (((z0 + (64 : Int32)) - (1 : Int32)) / (64 : Int32)))] [(.int (1 : Int32)), (.ref lv)] (hw _ (List.mem_of_getElem? (i := 19) rfl)) (hw _ (List.mem_of_getElem? (i := 20) rfl)) (hw _ (List.mem_of_getElem? (i := 3) rfl)) (hw _ (List.mem_of_getElem? (i := 21) rfl)) (by decide) own_pd_0 rfl rfl rfl (by decide) (by decide) (Nat.le_of_eq rfl) rfl own_b2_64 rfl rfl rfl (by decide) (by show _ ≤ 300; omega) (own_max l Z a0 hw n0 h23 (1 : Int32) (((z0 + (64 : Int32)) - (1 : Int32)) / (64 : Int32)) ) (r1_next fun r27 h25 q26 => ?_)
            obtain ⟨rfl, rfl⟩ := q26
            have ed1 : (((z0 + (64 : Int32)) - (1 : Int32)) / (64 : Int32)).toInt = ((L1 : Nat) : Int) := by
              have e1 : (z0 + (64 : Int32)).toInt = z0.toInt + 64 := i32_add (by omega) (by omega)
              have e2 : ((z0 + (64 : Int32)) - (1 : Int32)).toInt = z0.toInt + 63 := by rw [i32_sub (by omega) (by omega)]; omega
              rw [(c_idiv _ (64 : Int32) 64 rfl (by decide)).1 (by omega), e2]; omega
            have em1 : (max32 (1 : Int32) (((z0 + (64 : Int32)) - (1 : Int32)) / (64 : Int32))).toInt = ((L1 : Nat) : Int) := by have := max32_spec (1 : Int32) (((z0 + (64 : Int32)) - (1 : Int32)) / (64 : Int32)); omega
            obtain ⟨z1, ez1⟩ : ∃ z, z = (max32 (1 : Int32) (((z0 + (64 : Int32)) - (1 : Int32)) / (64 : Int32))) := ⟨_, rfl⟩
            rw [← ez1] at em1 ⊢
            refine WP.newarrayE K 69 L1 L1 3 ((2 + L0) + L1) (hw _ (List.mem_of_getElem? (i := 22) rfl)) own_b2_67 rfl em1 (Nat.le_refl _) (by omega) rfl rfl (by decide) (by show _ ≤ 300; omega) (ad := "[J") (by decide) (fun h28 e1 z_e1 E29 V30 Y_e1 => ?_)
            have l_o_e1 : @LT.lt Nat _ o e1 := z_e1 ▸ Ex.lt
            have l_lv_e1 : @LT.lt Nat _ lv e1 := z_e1 ▸ R_lv.lt
            have l_e0_e1 : @LT.lt Nat _ e0 e1 := z_e1 ▸ A_e0.lt
            have n0_e1 : @LE.le Nat _ n0 e1 := z_e1 ▸ Z0
            have Z0 : n0 ≤ (h28).size := Nat.le_trans Z0 E29.1
            have Ex := Ex.ext E29
            have Fl := Fl.ext E29
            have Kp := Kp.ext E29
            have R_lv := R_lv.ext E29
            have A_e0 := A_e0.ext E29
            have Y_e0 := Y_e0.ext E29
            have A_e1 := ArJ.of_new V30
            refine WP.aastore K 70 1 R_lv rfl (R_lv.sto (Ins.self Y_e1)) rfl rfl (by simp) own_b2_69 rfl n0_lv (fun h31 K32 R_lv => ?_)
            have Z0 : n0 ≤ (h31).size := Nat.le_trans Z0 K32.1
            have Ex := Ex.keep K32
            have Fl := Fl.keep K32 (nm1 (by omega))
            have Kp := Kp.trans K32 (ks1 (by first | (refine Or.inl ?_; simp; done) | (refine Or.inr ?_; omega)))
            have A_e0 := A_e0.keep K32 (nm1 (by omega))
            have Y_e0 := Y_e0.keep K32
            have A_e1 := A_e1.keep K32 (nm1 (by omega))
            have Y_e1 := Y_e1.keep K32
            have R_lv : ArR Z h31 lv (.array .long) "[J" [.ref e0, .ref e1] := R_lv
            refine WP.aloadN K 71 own_b2_70 rfl rfl rfl ?_
            refine WP.getfield K (host := "") 74 (Or.inl (hw _ (List.mem_of_getElem? (i := 17) rfl))) Via.refl Fl own_b2_71 rfl ?_
            refine WP.iload K 76 own_b2_74 rfl rfl ?_
            refine WP.aaload K 77 1 R_lv.v rfl rfl rfl own_b2_76 rfl ?_
            refine WP.arraylength K z1 78 A_e1 (by rw [em1]; simp) own_b2_77 rfl ?_
            refine WP.istoreN K 79 [.val (.ref o), .val (.int cp), .val (.int (2 : Int32)), .val (.int z1), .val (.int (1 : Int32))] own_b2_78 rfl rfl ?_
            refine WP.iinc K (1 : Int32) 82 [.val (.ref o), .val (.int cp), .val (.int (2 : Int32)), .val (.int z1), .val (.int ((1 : Int32) + (1 : Int32)))] own_b2_79 rfl rfl rfl rfl ?_
            refine WP.goto K 42 own_b2_82 (by decide) ?_
            rw [show ((1 : Int32) + (1 : Int32)) = (2 : Int32) from rfl]
            refine WP.iload K 44 own_b2_42 rfl rfl ?_
            refine WP.iloadN K 45 own_b2_44 rfl rfl ?_
            refine WP.icmp_ge K 85 48 own_b2_45 (by decide) rfl (fun c45 => ?_) (fun c45 => ?_)
            · skip
              refine WP.retV K rfl own_b2_85 ?_ (by decide) (by show _ ≤ 300; omega)
              have hsz : h.size ≤ lv := by omega
              refine ⟨rfl, Kp, lv, [e0, e1], [List.replicate L0 (0 : Int64), List.replicate L1 (0 : Int64)], n0_lv, hsz, ⟨Ex, Fl, R_lv, rfl, ?_, ?_, ?_⟩, own_good_2 L0 L1 cap (by omega) (by omega) (by omega) (by omega)⟩
              · intro j a W ha hW
                match j, ha, hW with
                | 0, ha, hW => cases ha; cases hW; exact A_e0
                | 1, ha, hW => cases ha; cases hW; exact A_e1
                | n + 2, ha, hW => cases ha
              · intro j a ha
                match j, ha with
                | 0, ha => cases ha; exact ⟨n0_e0, by omega, by omega⟩
                | 1, ha => cases ha; exact ⟨n0_e1, by omega, by omega⟩
                | n + 2, ha => cases ha
              · intro i j a b hij ha hb
                match i, j, hij, ha, hb with
                | 0, 1, _, ha, hb => cases ha; cases hb; omega
                | n + 2, _, _, ha, _ => cases ha
                | _, n + 2, _, _, hb => cases hb
            · skip
              exact absurd c45 (by decide)
      · skip
        exfalso; omega
  · skip
    refine WP.aloadN K 1 own_b2_0 rfl rfl rfl ?_
    refine WP.initO K 4 0 (hw _ (List.mem_of_getElem? (i := 11) rfl)) (hw _ (List.mem_of_getElem? (i := 12) rfl)) (hw _ (List.mem_of_getElem? (i := 13) rfl)) own_b2_1 rfl rfl (by decide) (Nat.le_of_eq rfl) (by decide) ?_
    refine WP.iconst K (1 : Int32) 5 own_b2_4 rfl rfl ?_
    refine WP.istoreN K 6 [.val (.ref o), .val (.int cp), .val (.int (1 : Int32)), .unset, .unset] own_b2_5 rfl rfl ?_
    refine WP.ldc2J K (v := (64 : Int64)) 9 (hw _ (List.mem_of_getElem? (i := 14) rfl)) own_b2_6 rfl ?_
    refine WP.lstoreN K 10 [.val (.ref o), .val (.int cp), .val (.int (1 : Int32)), .val (.long (64 : Int64)), .second] own_b2_9 rfl rfl ?_
    refine WP.lloadN K 11 own_b2_10 rfl rfl ?_
    refine WP.iloadN K 12 own_b2_11 rfl rfl ?_
    refine WP.i2l K 13 own_b2_12 rfl ?_
    refine WP.lcmp K 14 own_b2_13 rfl ?_
    refine WP.ifl_ge K 29 17 own_b2_14 (by decide) rfl (fun c14 => ?_) (fun c14 => ?_)
    · skip
      exfalso; omega
    · skip
      refine WP.iinc K (1 : Int32) 20 [.val (.ref o), .val (.int cp), .val (.int ((1 : Int32) + (1 : Int32))), .val (.long (64 : Int64)), .second] own_b2_17 rfl rfl rfl rfl ?_
      refine WP.lloadN K 21 own_b2_20 rfl rfl ?_
      refine WP.ldc2J K (v := (64 : Int64)) 24 (hw _ (List.mem_of_getElem? (i := 14) rfl)) own_b2_21 rfl ?_
      refine WP.lmul K 25 own_b2_24 rfl ?_
      refine WP.lstoreN K 26 [.val (.ref o), .val (.int cp), .val (.int ((1 : Int32) + (1 : Int32))), .val (.long ((64 : Int64) * (64 : Int64))), .second] own_b2_25 rfl rfl ?_
      refine WP.goto K 10 own_b2_26 (by decide) ?_
      refine WP.lloadN K 11 own_b2_10 rfl rfl ?_
      refine WP.iloadN K 12 own_b2_11 rfl rfl ?_
      refine WP.i2l K 13 own_b2_12 rfl ?_
      refine WP.lcmp K 14 own_b2_13 rfl ?_
      refine WP.ifl_ge K 29 17 own_b2_14 (by decide) rfl (fun c14 => ?_) (fun c14 => ?_)
      · skip
        exfalso; omega
      · skip
        refine WP.iinc K (1 : Int32) 20 [.val (.ref o), .val (.int cp), .val (.int (((1 : Int32) + (1 : Int32)) + (1 : Int32))), .val (.long ((64 : Int64) * (64 : Int64))), .second] own_b2_17 rfl rfl rfl rfl ?_
        refine WP.lloadN K 21 own_b2_20 rfl rfl ?_
        refine WP.ldc2J K (v := (64 : Int64)) 24 (hw _ (List.mem_of_getElem? (i := 14) rfl)) own_b2_21 rfl ?_
        refine WP.lmul K 25 own_b2_24 rfl ?_
        refine WP.lstoreN K 26 [.val (.ref o), .val (.int cp), .val (.int (((1 : Int32) + (1 : Int32)) + (1 : Int32))), .val (.long (((64 : Int64) * (64 : Int64)) * (64 : Int64))), .second] own_b2_25 rfl rfl ?_
        refine WP.goto K 10 own_b2_26 (by decide) ?_
        refine WP.lloadN K 11 own_b2_10 rfl rfl ?_
        refine WP.iloadN K 12 own_b2_11 rfl rfl ?_
        refine WP.i2l K 13 own_b2_12 rfl ?_
        refine WP.lcmp K 14 own_b2_13 rfl ?_
        refine WP.ifl_ge K 29 17 own_b2_14 (by decide) rfl (fun c14 => ?_) (fun c14 => ?_)
        · skip
          rw [show (((1 : Int32) + (1 : Int32)) + (1 : Int32)) = (3 : Int32) from rfl]
          refine WP.aloadN K 30 own_b2_29 rfl rfl rfl ?_
          refine WP.iloadN K 31 own_b2_30 rfl rfl ?_
          refine WP.anewarrayA K 34 3 3 1 3 (et := .long) (C := "[J") (by decide) (hw _ (List.mem_of_getElem? (i := 15) rfl)) (hw _ (List.mem_of_getElem? (i := 16) rfl)) own_b2_31 rfl rfl (Nat.le_refl _) (by decide) rfl rfl (by decide) (by decide) (fun h33 lv z_lv E34 R_lv => ?_)
          have l_o_lv : @LT.lt Nat _ o lv := z_lv ▸ Ex.lt
          have n0_lv : @LE.le Nat _ n0 lv := z_lv ▸ Z0
          have s_lv : h.size ≤ lv := z_lv ▸ Kp.1
          have Z0 : n0 ≤ (h33).size := Nat.le_trans Z0 E34.1
          have Ex := Ex.ext E34
          have Fl := Fl.ext E34
          have Kp := Kp.ext E34
          have R_lv : ArR Z h33 lv (.array .long) "[J" [.null, .null, .null] := R_lv
          refine WP.putfield K (host := "") (a := o) 37 (Or.inl (hw _ (List.mem_of_getElem? (i := 17) rfl))) Via.refl Fl Ex (Or.inr ⟨(hw _ (List.mem_of_getElem? (i := 18) rfl)), rfl, rfl⟩) (hw _ (List.mem_of_getElem? (i := 6) rfl)) (ty := (.array (.array .long))) (by decide) rfl rfl own_b2_34 rfl n0_o (fun h35 W36 => ?_)
          have Z0 : n0 ≤ (h35).size := by rw [W36.size]; exact Z0
          have Ex := Ex.wr W36
          have Fl := Fl.same W36
          have Kp := Kp.wr W36 (Or.inl (by simp))
          have R_lv := R_lv.other W36 (ne_addr (by omega))
          refine WP.iloadN K 38 own_b2_37 rfl rfl ?_
          refine WP.istoreN K 39 [.val (.ref o), .val (.int cp), .val (.int (3 : Int32)), .val (.int cp), .unset] own_b2_38 rfl rfl ?_
          refine WP.iconst K (0 : Int32) 40 own_b2_39 rfl rfl ?_
          refine WP.istore K 42 [.val (.ref o), .val (.int cp), .val (.int (3 : Int32)), .val (.int cp), .val (.int (0 : Int32))] own_b2_40 rfl rfl ?_
          refine WP.iload K 44 own_b2_42 rfl rfl ?_
          refine WP.iloadN K 45 own_b2_44 rfl rfl ?_
          refine WP.icmp_ge K 85 48 own_b2_45 (by decide) rfl (fun c45 => ?_) (fun c45 => ?_)
          · skip
            exact absurd c45 (by decide)
          · skip
            refine WP.aloadN K 49 own_b2_48 rfl rfl rfl ?_
            refine WP.getfield K (host := "") 52 (Or.inl (hw _ (List.mem_of_getElem? (i := 17) rfl))) Via.refl Fl own_b2_49 rfl ?_
            refine WP.iload K 54 own_b2_52 rfl rfl ?_
            refine WP.iconst K (1 : Int32) 55 own_b2_54 rfl rfl ?_
            refine WP.iloadN K 56 own_b2_55 rfl rfl ?_
            refine WP.bipush K (64 : Int32) 58 own_b2_56 rfl rfl ?_
            refine WP.iadd K 59 own_b2_58 rfl ?_
            refine WP.iconst K (1 : Int32) 60 own_b2_59 rfl rfl ?_
            refine WP.isub K 61 own_b2_60 rfl ?_
            refine WP.bipush K (64 : Int32) 63 own_b2_61 rfl rfl ?_
            refine WP.idiv K 64 own_b2_63 rfl (by decide) ?_
            refine WP.callS K 67 1 3 2 [(.int (1 : Int32)), (.int (((cp + (64 : Int32)) - (1 : Int32)) / (64 : Int32)))] [(.int (0 : Int32)), (.ref lv)] (hw _ (List.mem_of_getElem? (i := 19) rfl)) (hw _ (List.mem_of_getElem? (i := 20) rfl)) (hw _ (List.mem_of_getElem? (i := 3) rfl)) (hw _ (List.mem_of_getElem? (i := 21) rfl)) (by decide) own_pd_0 rfl rfl rfl (by decide) (by decide) (Nat.le_of_eq rfl) rfl own_b2_64 rfl rfl rfl (by decide) (by decide) (own_max l Z a0 hw n0 h35 (1 : Int32) (((cp + (64 : Int32)) - (1 : Int32)) / (64 : Int32)) ) (r1_next fun r39 h37 q38 => ?_)
            obtain ⟨rfl, rfl⟩ := q38
            have ed0 : (((cp + (64 : Int32)) - (1 : Int32)) / (64 : Int32)).toInt = ((L0 : Nat) : Int) := by
              have e1 : (cp + (64 : Int32)).toInt = cp.toInt + 64 := i32_add (by omega) (by omega)
              have e2 : ((cp + (64 : Int32)) - (1 : Int32)).toInt = cp.toInt + 63 := by rw [i32_sub (by omega) (by omega)]; omega
              rw [(c_idiv _ (64 : Int32) 64 rfl (by decide)).1 (by omega), e2]; omega
            have em0 : (max32 (1 : Int32) (((cp + (64 : Int32)) - (1 : Int32)) / (64 : Int32))).toInt = ((L0 : Nat) : Int) := by have := max32_spec (1 : Int32) (((cp + (64 : Int32)) - (1 : Int32)) / (64 : Int32)); omega
            obtain ⟨z0, ez0⟩ : ∃ z, z = (max32 (1 : Int32) (((cp + (64 : Int32)) - (1 : Int32)) / (64 : Int32))) := ⟨_, rfl⟩
            rw [← ez0] at em0 ⊢
            refine WP.newarrayE K 69 L0 L0 2 (3 + L0) (hw _ (List.mem_of_getElem? (i := 22) rfl)) own_b2_67 rfl em0 (Nat.le_refl _) (by omega) rfl rfl (by decide) (by show _ ≤ 300; omega) (ad := "[J") (by decide) (fun h40 e0 z_e0 E41 V42 Y_e0 => ?_)
            have l_o_e0 : @LT.lt Nat _ o e0 := z_e0 ▸ Ex.lt
            have l_lv_e0 : @LT.lt Nat _ lv e0 := z_e0 ▸ R_lv.lt
            have n0_e0 : @LE.le Nat _ n0 e0 := z_e0 ▸ Z0
            have Z0 : n0 ≤ (h40).size := Nat.le_trans Z0 E41.1
            have Ex := Ex.ext E41
            have Fl := Fl.ext E41
            have Kp := Kp.ext E41
            have R_lv := R_lv.ext E41
            have A_e0 := ArJ.of_new V42
            refine WP.aastore K 70 0 R_lv rfl (R_lv.sto (Ins.self Y_e0)) rfl rfl (by simp) own_b2_69 rfl n0_lv (fun h43 K44 R_lv => ?_)
            have Z0 : n0 ≤ (h43).size := Nat.le_trans Z0 K44.1
            have Ex := Ex.keep K44
            have Fl := Fl.keep K44 (nm1 (by omega))
            have Kp := Kp.trans K44 (ks1 (by first | (refine Or.inl ?_; simp; done) | (refine Or.inr ?_; omega)))
            have A_e0 := A_e0.keep K44 (nm1 (by omega))
            have Y_e0 := Y_e0.keep K44
            have R_lv : ArR Z h43 lv (.array .long) "[J" [.ref e0, .null, .null] := R_lv
            refine WP.aloadN K 71 own_b2_70 rfl rfl rfl ?_
            refine WP.getfield K (host := "") 74 (Or.inl (hw _ (List.mem_of_getElem? (i := 17) rfl))) Via.refl Fl own_b2_71 rfl ?_
            refine WP.iload K 76 own_b2_74 rfl rfl ?_
            refine WP.aaload K 77 0 R_lv.v rfl rfl rfl own_b2_76 rfl ?_
            refine WP.arraylength K z0 78 A_e0 (by rw [em0]; simp) own_b2_77 rfl ?_
            refine WP.istoreN K 79 [.val (.ref o), .val (.int cp), .val (.int (3 : Int32)), .val (.int z0), .val (.int (0 : Int32))] own_b2_78 rfl rfl ?_
            refine WP.iinc K (1 : Int32) 82 [.val (.ref o), .val (.int cp), .val (.int (3 : Int32)), .val (.int z0), .val (.int ((0 : Int32) + (1 : Int32)))] own_b2_79 rfl rfl rfl rfl ?_
            refine WP.goto K 42 own_b2_82 (by decide) ?_
            rw [show ((0 : Int32) + (1 : Int32)) = (1 : Int32) from rfl]
            refine WP.iload K 44 own_b2_42 rfl rfl ?_
            refine WP.iloadN K 45 own_b2_44 rfl rfl ?_
            refine WP.icmp_ge K 85 48 own_b2_45 (by decide) rfl (fun c45 => ?_) (fun c45 => ?_)
            · skip
              exact absurd c45 (by decide)
            · skip
              refine WP.aloadN K 49 own_b2_48 rfl rfl rfl ?_
              refine WP.getfield K (host := "") 52 (Or.inl (hw _ (List.mem_of_getElem? (i := 17) rfl))) Via.refl Fl own_b2_49 rfl ?_
              refine WP.iload K 54 own_b2_52 rfl rfl ?_
              refine WP.iconst K (1 : Int32) 55 own_b2_54 rfl rfl ?_
              refine WP.iloadN K 56 own_b2_55 rfl rfl ?_
              refine WP.bipush K (64 : Int32) 58 own_b2_56 rfl rfl ?_
              refine WP.iadd K 59 own_b2_58 rfl ?_
              refine WP.iconst K (1 : Int32) 60 own_b2_59 rfl rfl ?_
              refine WP.isub K 61 own_b2_60 rfl ?_
              refine WP.bipush K (64 : Int32) 63 own_b2_61 rfl rfl ?_
              refine WP.idiv K 64 own_b2_63 rfl (by decide) ?_
              refine WP.callS K 67 2 (3 + L0) 2 [(.int (1 : Int32)), (.int (((z0 + (64 : Int32)) - (1 : Int32)) / (64 : Int32)))] [(.int (1 : Int32)), (.ref lv)] (hw _ (List.mem_of_getElem? (i := 19) rfl)) (hw _ (List.mem_of_getElem? (i := 20) rfl)) (hw _ (List.mem_of_getElem? (i := 3) rfl)) (hw _ (List.mem_of_getElem? (i := 21) rfl)) (by decide) own_pd_0 rfl rfl rfl (by decide) (by decide) (Nat.le_of_eq rfl) rfl own_b2_64 rfl rfl rfl (by decide) (by show _ ≤ 300; omega) (own_max l Z a0 hw n0 h43 (1 : Int32) (((z0 + (64 : Int32)) - (1 : Int32)) / (64 : Int32)) ) (r1_next fun r47 h45 q46 => ?_)
              obtain ⟨rfl, rfl⟩ := q46
              have ed1 : (((z0 + (64 : Int32)) - (1 : Int32)) / (64 : Int32)).toInt = ((L1 : Nat) : Int) := by
                have e1 : (z0 + (64 : Int32)).toInt = z0.toInt + 64 := i32_add (by omega) (by omega)
                have e2 : ((z0 + (64 : Int32)) - (1 : Int32)).toInt = z0.toInt + 63 := by rw [i32_sub (by omega) (by omega)]; omega
                rw [(c_idiv _ (64 : Int32) 64 rfl (by decide)).1 (by omega), e2]; omega
              have em1 : (max32 (1 : Int32) (((z0 + (64 : Int32)) - (1 : Int32)) / (64 : Int32))).toInt = ((L1 : Nat) : Int) := by have := max32_spec (1 : Int32) (((z0 + (64 : Int32)) - (1 : Int32)) / (64 : Int32)); omega
              obtain ⟨z1, ez1⟩ : ∃ z, z = (max32 (1 : Int32) (((z0 + (64 : Int32)) - (1 : Int32)) / (64 : Int32))) := ⟨_, rfl⟩
              rw [← ez1] at em1 ⊢
              refine WP.newarrayE K 69 L1 L1 3 ((3 + L0) + L1) (hw _ (List.mem_of_getElem? (i := 22) rfl)) own_b2_67 rfl em1 (Nat.le_refl _) (by omega) rfl rfl (by decide) (by show _ ≤ 300; omega) (ad := "[J") (by decide) (fun h48 e1 z_e1 E49 V50 Y_e1 => ?_)
              have l_o_e1 : @LT.lt Nat _ o e1 := z_e1 ▸ Ex.lt
              have l_lv_e1 : @LT.lt Nat _ lv e1 := z_e1 ▸ R_lv.lt
              have l_e0_e1 : @LT.lt Nat _ e0 e1 := z_e1 ▸ A_e0.lt
              have n0_e1 : @LE.le Nat _ n0 e1 := z_e1 ▸ Z0
              have Z0 : n0 ≤ (h48).size := Nat.le_trans Z0 E49.1
              have Ex := Ex.ext E49
              have Fl := Fl.ext E49
              have Kp := Kp.ext E49
              have R_lv := R_lv.ext E49
              have A_e0 := A_e0.ext E49
              have Y_e0 := Y_e0.ext E49
              have A_e1 := ArJ.of_new V50
              refine WP.aastore K 70 1 R_lv rfl (R_lv.sto (Ins.self Y_e1)) rfl rfl (by simp) own_b2_69 rfl n0_lv (fun h51 K52 R_lv => ?_)
              have Z0 : n0 ≤ (h51).size := Nat.le_trans Z0 K52.1
              have Ex := Ex.keep K52
              have Fl := Fl.keep K52 (nm1 (by omega))
              have Kp := Kp.trans K52 (ks1 (by first | (refine Or.inl ?_; simp; done) | (refine Or.inr ?_; omega)))
              have A_e0 := A_e0.keep K52 (nm1 (by omega))
              have Y_e0 := Y_e0.keep K52
              have A_e1 := A_e1.keep K52 (nm1 (by omega))
              have Y_e1 := Y_e1.keep K52
              have R_lv : ArR Z h51 lv (.array .long) "[J" [.ref e0, .ref e1, .null] := R_lv
              refine WP.aloadN K 71 own_b2_70 rfl rfl rfl ?_
              refine WP.getfield K (host := "") 74 (Or.inl (hw _ (List.mem_of_getElem? (i := 17) rfl))) Via.refl Fl own_b2_71 rfl ?_
              refine WP.iload K 76 own_b2_74 rfl rfl ?_
              refine WP.aaload K 77 1 R_lv.v rfl rfl rfl own_b2_76 rfl ?_
              refine WP.arraylength K z1 78 A_e1 (by rw [em1]; simp) own_b2_77 rfl ?_
              refine WP.istoreN K 79 [.val (.ref o), .val (.int cp), .val (.int (3 : Int32)), .val (.int z1), .val (.int (1 : Int32))] own_b2_78 rfl rfl ?_
              refine WP.iinc K (1 : Int32) 82 [.val (.ref o), .val (.int cp), .val (.int (3 : Int32)), .val (.int z1), .val (.int ((1 : Int32) + (1 : Int32)))] own_b2_79 rfl rfl rfl rfl ?_
              refine WP.goto K 42 own_b2_82 (by decide) ?_
              rw [show ((1 : Int32) + (1 : Int32)) = (2 : Int32) from rfl]
              refine WP.iload K 44 own_b2_42 rfl rfl ?_
              refine WP.iloadN K 45 own_b2_44 rfl rfl ?_
              refine WP.icmp_ge K 85 48 own_b2_45 (by decide) rfl (fun c45 => ?_) (fun c45 => ?_)
              · skip
                exact absurd c45 (by decide)
              · skip
                refine WP.aloadN K 49 own_b2_48 rfl rfl rfl ?_
                refine WP.getfield K (host := "") 52 (Or.inl (hw _ (List.mem_of_getElem? (i := 17) rfl))) Via.refl Fl own_b2_49 rfl ?_
                refine WP.iload K 54 own_b2_52 rfl rfl ?_
                refine WP.iconst K (1 : Int32) 55 own_b2_54 rfl rfl ?_
                refine WP.iloadN K 56 own_b2_55 rfl rfl ?_
                refine WP.bipush K (64 : Int32) 58 own_b2_56 rfl rfl ?_
                refine WP.iadd K 59 own_b2_58 rfl ?_
                refine WP.iconst K (1 : Int32) 60 own_b2_59 rfl rfl ?_
                refine WP.isub K 61 own_b2_60 rfl ?_
                refine WP.bipush K (64 : Int32) 63 own_b2_61 rfl rfl ?_
                refine WP.idiv K 64 own_b2_63 rfl (by decide) ?_
                refine WP.callS K 67 3 ((3 + L0) + L1) 2 [(.int (1 : Int32)), (.int (((z1 + (64 : Int32)) - (1 : Int32)) / (64 : Int32)))] [(.int (2 : Int32)), (.ref lv)] (hw _ (List.mem_of_getElem? (i := 19) rfl)) (hw _ (List.mem_of_getElem? (i := 20) rfl)) (hw _ (List.mem_of_getElem? (i := 3) rfl)) (hw _ (List.mem_of_getElem? (i := 21) rfl)) (by decide) own_pd_0 rfl rfl rfl (by decide) (by decide) (Nat.le_of_eq rfl) rfl own_b2_64 rfl rfl rfl (by decide) (by show _ ≤ 300; omega) (own_max l Z a0 hw n0 h51 (1 : Int32) (((z1 + (64 : Int32)) - (1 : Int32)) / (64 : Int32)) ) (r1_next fun r55 h53 q54 => ?_)
                obtain ⟨rfl, rfl⟩ := q54
                have ed2 : (((z1 + (64 : Int32)) - (1 : Int32)) / (64 : Int32)).toInt = ((1 : Nat) : Int) := by
                  have e1 : (z1 + (64 : Int32)).toInt = z1.toInt + 64 := i32_add (by omega) (by omega)
                  have e2 : ((z1 + (64 : Int32)) - (1 : Int32)).toInt = z1.toInt + 63 := by rw [i32_sub (by omega) (by omega)]; omega
                  rw [(c_idiv _ (64 : Int32) 64 rfl (by decide)).1 (by omega), e2]; omega
                have em2 : (max32 (1 : Int32) (((z1 + (64 : Int32)) - (1 : Int32)) / (64 : Int32))).toInt = ((1 : Nat) : Int) := by have := max32_spec (1 : Int32) (((z1 + (64 : Int32)) - (1 : Int32)) / (64 : Int32)); omega
                obtain ⟨z2, ez2⟩ : ∃ z, z = (max32 (1 : Int32) (((z1 + (64 : Int32)) - (1 : Int32)) / (64 : Int32))) := ⟨_, rfl⟩
                rw [← ez2] at em2 ⊢
                refine WP.newarrayE K 69 1 1 4 (((3 + L0) + L1) + 1) (hw _ (List.mem_of_getElem? (i := 22) rfl)) own_b2_67 rfl em2 (Nat.le_refl _) (by omega) rfl rfl (by decide) (by show _ ≤ 300; omega) (ad := "[J") (by decide) (fun h56 e2 z_e2 E57 V58 Y_e2 => ?_)
                have l_o_e2 : @LT.lt Nat _ o e2 := z_e2 ▸ Ex.lt
                have l_lv_e2 : @LT.lt Nat _ lv e2 := z_e2 ▸ R_lv.lt
                have l_e0_e2 : @LT.lt Nat _ e0 e2 := z_e2 ▸ A_e0.lt
                have l_e1_e2 : @LT.lt Nat _ e1 e2 := z_e2 ▸ A_e1.lt
                have n0_e2 : @LE.le Nat _ n0 e2 := z_e2 ▸ Z0
                have Z0 : n0 ≤ (h56).size := Nat.le_trans Z0 E57.1
                have Ex := Ex.ext E57
                have Fl := Fl.ext E57
                have Kp := Kp.ext E57
                have R_lv := R_lv.ext E57
                have A_e0 := A_e0.ext E57
                have Y_e0 := Y_e0.ext E57
                have A_e1 := A_e1.ext E57
                have Y_e1 := Y_e1.ext E57
                have A_e2 := ArJ.of_new V58
                refine WP.aastore K 70 2 R_lv rfl (R_lv.sto (Ins.self Y_e2)) rfl rfl (by simp) own_b2_69 rfl n0_lv (fun h59 K60 R_lv => ?_)
                have Z0 : n0 ≤ (h59).size := Nat.le_trans Z0 K60.1
                have Ex := Ex.keep K60
                have Fl := Fl.keep K60 (nm1 (by omega))
                have Kp := Kp.trans K60 (ks1 (by first | (refine Or.inl ?_; simp; done) | (refine Or.inr ?_; omega)))
                have A_e0 := A_e0.keep K60 (nm1 (by omega))
                have Y_e0 := Y_e0.keep K60
                have A_e1 := A_e1.keep K60 (nm1 (by omega))
                have Y_e1 := Y_e1.keep K60
                have A_e2 := A_e2.keep K60 (nm1 (by omega))
                have Y_e2 := Y_e2.keep K60
                have R_lv : ArR Z h59 lv (.array .long) "[J" [.ref e0, .ref e1, .ref e2] := R_lv
                refine WP.aloadN K 71 own_b2_70 rfl rfl rfl ?_
                refine WP.getfield K (host := "") 74 (Or.inl (hw _ (List.mem_of_getElem? (i := 17) rfl))) Via.refl Fl own_b2_71 rfl ?_
                refine WP.iload K 76 own_b2_74 rfl rfl ?_
                refine WP.aaload K 77 2 R_lv.v rfl rfl rfl own_b2_76 rfl ?_
                refine WP.arraylength K z2 78 A_e2 (by rw [em2]; simp) own_b2_77 rfl ?_
                refine WP.istoreN K 79 [.val (.ref o), .val (.int cp), .val (.int (3 : Int32)), .val (.int z2), .val (.int (2 : Int32))] own_b2_78 rfl rfl ?_
                refine WP.iinc K (1 : Int32) 82 [.val (.ref o), .val (.int cp), .val (.int (3 : Int32)), .val (.int z2), .val (.int ((2 : Int32) + (1 : Int32)))] own_b2_79 rfl rfl rfl rfl ?_
                refine WP.goto K 42 own_b2_82 (by decide) ?_
                rw [show ((2 : Int32) + (1 : Int32)) = (3 : Int32) from rfl]
                refine WP.iload K 44 own_b2_42 rfl rfl ?_
                refine WP.iloadN K 45 own_b2_44 rfl rfl ?_
                refine WP.icmp_ge K 85 48 own_b2_45 (by decide) rfl (fun c45 => ?_) (fun c45 => ?_)
                · skip
                  refine WP.retV K rfl own_b2_85 ?_ (by decide) (by show _ ≤ 300; omega)
                  have hsz : h.size ≤ lv := by omega
                  refine ⟨rfl, Kp, lv, [e0, e1, e2], [List.replicate L0 (0 : Int64), List.replicate L1 (0 : Int64), List.replicate 1 (0 : Int64)], n0_lv, hsz, ⟨Ex, Fl, R_lv, rfl, ?_, ?_, ?_⟩, own_good_3 L0 L1 cap (by omega) (by omega) (by omega) (by omega)⟩
                  · intro j a W ha hW
                    match j, ha, hW with
                    | 0, ha, hW => cases ha; cases hW; exact A_e0
                    | 1, ha, hW => cases ha; cases hW; exact A_e1
                    | 2, ha, hW => cases ha; cases hW; exact A_e2
                    | n + 3, ha, hW => cases ha
                  · intro j a ha
                    match j, ha with
                    | 0, ha => cases ha; exact ⟨n0_e0, by omega, by omega⟩
                    | 1, ha => cases ha; exact ⟨n0_e1, by omega, by omega⟩
                    | 2, ha => cases ha; exact ⟨n0_e2, by omega, by omega⟩
                    | n + 3, ha => cases ha
                  · intro i j a b hij ha hb
                    match i, j, hij, ha, hb with
                    | 0, 1, _, ha, hb => cases ha; cases hb; omega
                    | 0, 2, _, ha, hb => cases ha; cases hb; omega
                    | 1, 2, _, ha, hb => cases ha; cases hb; omega
                    | n + 3, _, _, ha, _ => cases ha
                    | _, n + 3, _, _, hb => cases hb
                · skip
                  exact absurd c45 (by decide)
        · skip
          exfalso; omega
theorem own_b10_0 : decode jdk_33_method_48_code 0 = .ok (.iload_n 0, 1) := by decide +kernel
theorem own_b10_1 : decode jdk_33_method_48_code 1 = .ok (.iconst (-1), 1) := by decide +kernel
theorem own_b10_2 : decode jdk_33_method_48_code 2 = .ok (.ixor, 1) := by decide +kernel
theorem own_b10_3 : decode jdk_33_method_48_code 3 = .ok (.iload_n 0, 1) := by decide +kernel
theorem own_b10_4 : decode jdk_33_method_48_code 4 = .ok (.iconst 1, 1) := by decide +kernel
theorem own_b10_5 : decode jdk_33_method_48_code 5 = .ok (.isub, 1) := by decide +kernel
theorem own_b10_6 : decode jdk_33_method_48_code 6 = .ok (.iand, 1) := by decide +kernel
theorem own_b10_7 : decode jdk_33_method_48_code 7 = .ok (.istore_n 0, 1) := by decide +kernel
theorem own_b10_8 : decode jdk_33_method_48_code 8 = .ok (.iload_n 0, 1) := by decide +kernel
theorem own_b10_9 : decode jdk_33_method_48_code 9 = .ok (.ifCond .gt 8, 3) := by decide +kernel
theorem own_b10_12 : decode jdk_33_method_48_code 12 = .ok (.iload_n 0, 1) := by decide +kernel
theorem own_b10_13 : decode jdk_33_method_48_code 13 = .ok (.bipush 32, 2) := by decide +kernel
theorem own_b10_15 : decode jdk_33_method_48_code 15 = .ok (.iand, 1) := by decide +kernel
theorem own_b10_16 : decode jdk_33_method_48_code 16 = .ok (.ireturn, 1) := by decide +kernel
theorem own_b10_17 : decode jdk_33_method_48_code 17 = .ok (.iconst 1, 1) := by decide +kernel
theorem own_b10_18 : decode jdk_33_method_48_code 18 = .ok (.istore_n 1, 1) := by decide +kernel
theorem own_b10_19 : decode jdk_33_method_48_code 19 = .ok (.iload_n 0, 1) := by decide +kernel
theorem own_b10_20 : decode jdk_33_method_48_code 20 = .ok (.ldc_w 264, 3) := by decide +kernel
theorem own_b10_23 : decode jdk_33_method_48_code 23 = .ok (.if_icmp .le 11, 3) := by decide +kernel
theorem own_b10_26 : decode jdk_33_method_48_code 26 = .ok (.iinc 1 16, 3) := by decide +kernel
theorem own_b10_29 : decode jdk_33_method_48_code 29 = .ok (.iload_n 0, 1) := by decide +kernel
theorem own_b10_30 : decode jdk_33_method_48_code 30 = .ok (.bipush 16, 2) := by decide +kernel
theorem own_b10_32 : decode jdk_33_method_48_code 32 = .ok (.iushr, 1) := by decide +kernel
theorem own_b10_33 : decode jdk_33_method_48_code 33 = .ok (.istore_n 0, 1) := by decide +kernel
theorem own_b10_34 : decode jdk_33_method_48_code 34 = .ok (.iload_n 0, 1) := by decide +kernel
theorem own_b10_35 : decode jdk_33_method_48_code 35 = .ok (.sipush 256, 3) := by decide +kernel
theorem own_b10_38 : decode jdk_33_method_48_code 38 = .ok (.if_icmp .le 11, 3) := by decide +kernel
theorem own_b10_41 : decode jdk_33_method_48_code 41 = .ok (.iinc 1 8, 3) := by decide +kernel
theorem own_b10_44 : decode jdk_33_method_48_code 44 = .ok (.iload_n 0, 1) := by decide +kernel
theorem own_b10_45 : decode jdk_33_method_48_code 45 = .ok (.bipush 8, 2) := by decide +kernel
theorem own_b10_47 : decode jdk_33_method_48_code 47 = .ok (.iushr, 1) := by decide +kernel
theorem own_b10_48 : decode jdk_33_method_48_code 48 = .ok (.istore_n 0, 1) := by decide +kernel
theorem own_b10_49 : decode jdk_33_method_48_code 49 = .ok (.iload_n 0, 1) := by decide +kernel
theorem own_b10_50 : decode jdk_33_method_48_code 50 = .ok (.bipush 16, 2) := by decide +kernel
theorem own_b10_52 : decode jdk_33_method_48_code 52 = .ok (.if_icmp .le 10, 3) := by decide +kernel
theorem own_b10_55 : decode jdk_33_method_48_code 55 = .ok (.iinc 1 4, 3) := by decide +kernel
theorem own_b10_58 : decode jdk_33_method_48_code 58 = .ok (.iload_n 0, 1) := by decide +kernel
theorem own_b10_59 : decode jdk_33_method_48_code 59 = .ok (.iconst 4, 1) := by decide +kernel
theorem own_b10_60 : decode jdk_33_method_48_code 60 = .ok (.iushr, 1) := by decide +kernel
theorem own_b10_61 : decode jdk_33_method_48_code 61 = .ok (.istore_n 0, 1) := by decide +kernel
theorem own_b10_62 : decode jdk_33_method_48_code 62 = .ok (.iload_n 0, 1) := by decide +kernel
theorem own_b10_63 : decode jdk_33_method_48_code 63 = .ok (.iconst 4, 1) := by decide +kernel
theorem own_b10_64 : decode jdk_33_method_48_code 64 = .ok (.if_icmp .le 10, 3) := by decide +kernel
theorem own_b10_67 : decode jdk_33_method_48_code 67 = .ok (.iinc 1 2, 3) := by decide +kernel
theorem own_b10_70 : decode jdk_33_method_48_code 70 = .ok (.iload_n 0, 1) := by decide +kernel
theorem own_b10_71 : decode jdk_33_method_48_code 71 = .ok (.iconst 2, 1) := by decide +kernel
theorem own_b10_72 : decode jdk_33_method_48_code 72 = .ok (.iushr, 1) := by decide +kernel
theorem own_b10_73 : decode jdk_33_method_48_code 73 = .ok (.istore_n 0, 1) := by decide +kernel
theorem own_b10_74 : decode jdk_33_method_48_code 74 = .ok (.iload_n 1, 1) := by decide +kernel
theorem own_b10_75 : decode jdk_33_method_48_code 75 = .ok (.iload_n 0, 1) := by decide +kernel
theorem own_b10_76 : decode jdk_33_method_48_code 76 = .ok (.iconst 1, 1) := by decide +kernel
theorem own_b10_77 : decode jdk_33_method_48_code 77 = .ok (.iushr, 1) := by decide +kernel
theorem own_b10_78 : decode jdk_33_method_48_code 78 = .ok (.iadd, 1) := by decide +kernel
theorem own_b10_79 : decode jdk_33_method_48_code 79 = .ok (.ireturn, 1) := by decide +kernel
theorem own_pf_b10 : plainFor (⟨"java/lang/Integer", "numberOfTrailingZeros", "(I)I"⟩ : MethodName) = true := by first | exact plainFor_of_name (by first | (simp [plainName, overriddenIn, x]; done) | decide +kernel) | decide +kernel
set_option maxRecDepth 65536 in
set_option maxHeartbeats 40000000 in
theorem own_ntzI (l : Launch) (Z : State) (a0 : Array Value) (hw : ∀ d ∈ tables_1, d.before a0 Z = true) (n0 : Nat) (h : Heap) (v : Int32) (T : Nat) (hT : T < 32) (hb1 : v.toBitVec.getLsbD T = true) (hb2 : ∀ i, i < T → v.toBitVec.getLsbD i = false) :
    Con l Z (⟨"java/lang/Integer", "numberOfTrailingZeros", "(I)I"⟩ : MethodName) jdk_33_method_48_code 2 (some .int) ({ frames := 0, cells := 0, slots := 0, locals := 0 } : Room) n0 #[(.int v)] h (R1 fun r h' => (∃ z : Int32, r = .int z ∧ z.toInt = (T : Nat)) ∧ h = h') := by
  refine Con.of (ls := [.val (.int v), .unset]) own_pf_b10 (fun m => by first | (simp [entryFrame, mkF, argsToLocals, Value.category]; done) | rfl) fun k K => ?_
  have k_m1 : ((-1) : Int32).toInt = -1 := rfl
  have k_1 : (1 : Int32).toInt = 1 := rfl
  have k_16 : (16 : Int32).toInt = 16 := rfl
  have k_2 : (2 : Int32).toInt = 2 := rfl
  have k_256 : (256 : Int32).toInt = 256 := rfl
  have k_32 : (32 : Int32).toInt = 32 := rfl
  have k_4 : (4 : Int32).toInt = 4 := rfl
  have k_65536 : (65536 : Int32).toInt = 65536 := rfl
  have k_8 : (8 : Int32).toInt = 8 := rfl
  have hp := low_mask32 v T hT hb1 hb2
  refine WP.iloadN K 1 own_b10_0 rfl rfl ?_
  refine WP.iconst K ((-1) : Int32) 2 own_b10_1 rfl rfl ?_
  refine WP.ixor K 3 own_b10_2 rfl ?_
  refine WP.iloadN K 4 own_b10_3 rfl rfl ?_
  refine WP.iconst K (1 : Int32) 5 own_b10_4 rfl rfl ?_
  refine WP.isub K 6 own_b10_5 rfl ?_
  refine WP.iand K 7 own_b10_6 rfl ?_
  refine WP.istoreN K 8 [.val (.int ((v ^^^ ((-1) : Int32)) &&& (v - (1 : Int32)))), .unset] own_b10_7 rfl rfl ?_
  generalize ((v ^^^ ((-1) : Int32)) &&& (v - (1 : Int32))) = p at hp ⊢
  have J74 : ∀ (t : Nat) (p n : Int32), 1 ≤ t → t < 3 → t ≤ T → p.toInt = ((2 ^ t - 1 : Nat) : Int) → n.toInt + t = (T : Int) + 1 → WP k h 0 0 74 [.val (.int p), .val (.int n)] [] := by
    intro t p n h1 h2 h3 hp hn
    have hu := ushrK (x := p) (q := (1 : Int32)) 1 rfl (by decide) hp
    have ht : (2 ^ t - 1) / 2 ^ 1 + 1 = t := by
      rcases (show t = 1 ∨ t = 2 by omega) with rfl | rfl <;> rfl
    have ha : (n + (XT.ushr p (1 : Int32))).toInt = n.toInt + (XT.ushr p (1 : Int32)).toInt := i32_add (by omega) (by omega)
    refine WP.iloadN K 75 own_b10_74 rfl rfl ?_
    refine WP.iloadN K 76 own_b10_75 rfl rfl ?_
    refine WP.iconst K (1 : Int32) 77 own_b10_76 rfl rfl ?_
    refine WP.iushr K 78 own_b10_77 rfl ?_
    refine WP.iadd K 79 own_b10_78 rfl ?_
    refine WP.iret K rfl (Or.inl rfl) rfl own_b10_79 ?_ (by decide) (by decide)
    exact ⟨_, rfl, ⟨_, rfl, by omega⟩, rfl⟩
  have J62 : ∀ (t : Nat) (p n : Int32), 1 ≤ t → t < 5 → t ≤ T → p.toInt = ((2 ^ t - 1 : Nat) : Int) → n.toInt + t = (T : Int) + 1 → WP k h 0 0 62 [.val (.int p), .val (.int n)] [] := by
    intro t p n h1 h2 h3 hp hn
    have g := pow_gt2 t h2
    refine WP.iloadN K 63 own_b10_62 rfl rfl ?_
    refine WP.iconst K (4 : Int32) 64 own_b10_63 rfl rfl ?_
    refine WP.icmp_le K 74 67 own_b10_64 (by decide) rfl (fun c64 => ?_) (fun c64 => ?_)
    · skip
      exact J74 t _ _ h1 (by omega) h3 hp hn
    · skip
      have hmn : 3 ≤ t := by omega
      have hu := ushrK (x := p) (q := (2 : Int32)) 2 rfl (by decide) hp
      have hp2 : (XT.ushr p (2 : Int32)).toInt = ((2 ^ (t - 2) - 1 : Nat) : Int) := by rw [hu, show 2 ^ 2 = 4 from rfl, pow_le4 t h2 (by omega)]
      have ha : (n + (2 : Int32)).toInt = n.toInt + 2 := i32_add (by omega) (by omega)
      refine WP.iinc K (2 : Int32) 70 [.val (.int p), .val (.int (n + (2 : Int32)))] own_b10_67 rfl rfl rfl rfl ?_
      refine WP.iloadN K 71 own_b10_70 rfl rfl ?_
      refine WP.iconst K (2 : Int32) 72 own_b10_71 rfl rfl ?_
      refine WP.iushr K 73 own_b10_72 rfl ?_
      refine WP.istoreN K 74 [.val (.int (XT.ushr p (2 : Int32))), .val (.int (n + (2 : Int32)))] own_b10_73 rfl rfl ?_
      exact J74 (t - 2) _ _ (by clear hp2 hu hp g; omega) (by clear hp2 hu hp g; omega) (by clear hp2 hu hp g; omega) hp2 (ntz_c (k := 2) ha hn (by clear hp2 hu hp g; omega))
  have J49 : ∀ (t : Nat) (p n : Int32), 1 ≤ t → t < 9 → t ≤ T → p.toInt = ((2 ^ t - 1 : Nat) : Int) → n.toInt + t = (T : Int) + 1 → WP k h 0 0 49 [.val (.int p), .val (.int n)] [] := by
    intro t p n h1 h2 h3 hp hn
    have g := pow_gt4 t h2
    refine WP.iloadN K 50 own_b10_49 rfl rfl ?_
    refine WP.bipush K (16 : Int32) 52 own_b10_50 rfl rfl ?_
    refine WP.icmp_le K 62 55 own_b10_52 (by decide) rfl (fun c52 => ?_) (fun c52 => ?_)
    · skip
      exact J62 t _ _ h1 (by omega) h3 hp hn
    · skip
      have hmn : 5 ≤ t := by omega
      have hu := ushrK (x := p) (q := (4 : Int32)) 4 rfl (by decide) hp
      have hp2 : (XT.ushr p (4 : Int32)).toInt = ((2 ^ (t - 4) - 1 : Nat) : Int) := by rw [hu, show 2 ^ 4 = 16 from rfl, pow_le8 t h2 (by omega)]
      have ha : (n + (4 : Int32)).toInt = n.toInt + 4 := i32_add (by omega) (by omega)
      refine WP.iinc K (4 : Int32) 58 [.val (.int p), .val (.int (n + (4 : Int32)))] own_b10_55 rfl rfl rfl rfl ?_
      refine WP.iloadN K 59 own_b10_58 rfl rfl ?_
      refine WP.iconst K (4 : Int32) 60 own_b10_59 rfl rfl ?_
      refine WP.iushr K 61 own_b10_60 rfl ?_
      refine WP.istoreN K 62 [.val (.int (XT.ushr p (4 : Int32))), .val (.int (n + (4 : Int32)))] own_b10_61 rfl rfl ?_
      exact J62 (t - 4) _ _ (by clear hp2 hu hp g; omega) (by clear hp2 hu hp g; omega) (by clear hp2 hu hp g; omega) hp2 (ntz_c (k := 4) ha hn (by clear hp2 hu hp g; omega))
  have J34 : ∀ (t : Nat) (p n : Int32), 1 ≤ t → t < 17 → t ≤ T → p.toInt = ((2 ^ t - 1 : Nat) : Int) → n.toInt + t = (T : Int) + 1 → WP k h 0 0 34 [.val (.int p), .val (.int n)] [] := by
    intro t p n h1 h2 h3 hp hn
    have g := pow_gt8 t h2
    refine WP.iloadN K 35 own_b10_34 rfl rfl ?_
    refine WP.sipush K (256 : Int32) 38 own_b10_35 rfl rfl ?_
    refine WP.icmp_le K 49 41 own_b10_38 (by decide) rfl (fun c38 => ?_) (fun c38 => ?_)
    · skip
      exact J49 t _ _ h1 (by omega) h3 hp hn
    · skip
      have hmn : 9 ≤ t := by omega
      have hu := ushrK (x := p) (q := (8 : Int32)) 8 rfl (by decide) hp
      have hp2 : (XT.ushr p (8 : Int32)).toInt = ((2 ^ (t - 8) - 1 : Nat) : Int) := by rw [hu, show 2 ^ 8 = 256 from rfl, pow_le16 t h2 (by omega)]
      have ha : (n + (8 : Int32)).toInt = n.toInt + 8 := i32_add (by omega) (by omega)
      refine WP.iinc K (8 : Int32) 44 [.val (.int p), .val (.int (n + (8 : Int32)))] own_b10_41 rfl rfl rfl rfl ?_
      refine WP.iloadN K 45 own_b10_44 rfl rfl ?_
      refine WP.bipush K (8 : Int32) 47 own_b10_45 rfl rfl ?_
      refine WP.iushr K 48 own_b10_47 rfl ?_
      refine WP.istoreN K 49 [.val (.int (XT.ushr p (8 : Int32))), .val (.int (n + (8 : Int32)))] own_b10_48 rfl rfl ?_
      exact J49 (t - 8) _ _ (by clear hp2 hu hp g; omega) (by clear hp2 hu hp g; omega) (by clear hp2 hu hp g; omega) hp2 (ntz_c (k := 8) ha hn (by clear hp2 hu hp g; omega))
  have J19 : ∀ (t : Nat) (p n : Int32), 1 ≤ t → t < 32 → t ≤ T → p.toInt = ((2 ^ t - 1 : Nat) : Int) → n.toInt + t = (T : Int) + 1 → WP k h 0 0 19 [.val (.int p), .val (.int n)] [] := by
    intro t p n h1 h2 h3 hp hn
    have g := pow_gt16 t h2
    refine WP.iloadN K 20 own_b10_19 rfl rfl ?_
    refine WP.ldcWI K (v := (65536 : Int32)) 23 (hw _ (List.mem_of_getElem? (i := 59) rfl)) own_b10_20 rfl ?_
    refine WP.icmp_le K 34 26 own_b10_23 (by decide) rfl (fun c23 => ?_) (fun c23 => ?_)
    · skip
      exact J34 t _ _ h1 (by omega) h3 hp hn
    · skip
      have hmn : 17 ≤ t := by omega
      have hu := ushrK (x := p) (q := (16 : Int32)) 16 rfl (by decide) hp
      have hp2 : (XT.ushr p (16 : Int32)).toInt = ((2 ^ (t - 16) - 1 : Nat) : Int) := by rw [hu, show 2 ^ 16 = 65536 from rfl, pow_le31 t h2 (by omega)]
      have ha : (n + (16 : Int32)).toInt = n.toInt + 16 := i32_add (by omega) (by omega)
      refine WP.iinc K (16 : Int32) 29 [.val (.int p), .val (.int (n + (16 : Int32)))] own_b10_26 rfl rfl rfl rfl ?_
      refine WP.iloadN K 30 own_b10_29 rfl rfl ?_
      refine WP.bipush K (16 : Int32) 32 own_b10_30 rfl rfl ?_
      refine WP.iushr K 33 own_b10_32 rfl ?_
      refine WP.istoreN K 34 [.val (.int (XT.ushr p (16 : Int32))), .val (.int (n + (16 : Int32)))] own_b10_33 rfl rfl ?_
      exact J34 (t - 16) _ _ (by clear hp2 hu hp g; omega) (by clear hp2 hu hp g; omega) (by clear hp2 hu hp g; omega) hp2 (ntz_c (k := 16) ha hn (by clear hp2 hu hp g; omega))
  refine WP.iloadN K 9 own_b10_8 rfl rfl ?_
  refine WP.if_gt K 17 12 own_b10_9 (by decide) rfl (fun c9 => ?_) (fun c9 => ?_)
  · skip
    have hT1 : 1 ≤ T := by
      rcases Nat.eq_zero_or_pos T with rfl | q
      · simp at hp; omega
      · exact q
    refine WP.iconst K (1 : Int32) 18 own_b10_17 rfl rfl ?_
    refine WP.istoreN K 19 [.val (.int p), .val (.int (1 : Int32))] own_b10_18 rfl rfl ?_
    exact J19 T _ _ hT1 hT (Nat.le_refl _) hp (by omega)
  · skip
    have hT0 : T = 0 := by
      rcases Nat.eq_zero_or_pos T with q | q
      · exact q
      · have := Nat.pow_le_pow_right (n := 2) (by decide) q; omega
    subst hT0
    have hp0 : p = (0 : Int32) := i32_eq (by rw [hp]; rfl)
    subst hp0
    refine WP.iloadN K 13 own_b10_12 rfl rfl ?_
    refine WP.bipush K (32 : Int32) 15 own_b10_13 rfl rfl ?_
    refine WP.iand K 16 own_b10_15 rfl ?_
    refine WP.iret K rfl (Or.inl rfl) rfl own_b10_16 ?_ (by decide) (by decide)
    exact ⟨_, rfl, ⟨_, rfl, rfl⟩, rfl⟩
theorem own_b9_0 : decode jdk_35_method_49_code 0 = .ok (.lload_n 0, 1) := by decide +kernel
theorem own_b9_1 : decode jdk_35_method_49_code 1 = .ok (.l2i, 1) := by decide +kernel
theorem own_b9_2 : decode jdk_35_method_49_code 2 = .ok (.istore_n 2, 1) := by decide +kernel
theorem own_b9_3 : decode jdk_35_method_49_code 3 = .ok (.iload_n 2, 1) := by decide +kernel
theorem own_b9_4 : decode jdk_35_method_49_code 4 = .ok (.ifCond .ne 17, 3) := by decide +kernel
theorem own_b9_7 : decode jdk_35_method_49_code 7 = .ok (.bipush 32, 2) := by decide +kernel
theorem own_b9_9 : decode jdk_35_method_49_code 9 = .ok (.lload_n 0, 1) := by decide +kernel
theorem own_b9_10 : decode jdk_35_method_49_code 10 = .ok (.bipush 32, 2) := by decide +kernel
theorem own_b9_12 : decode jdk_35_method_49_code 12 = .ok (.lushr, 1) := by decide +kernel
theorem own_b9_13 : decode jdk_35_method_49_code 13 = .ok (.l2i, 1) := by decide +kernel
theorem own_b9_14 : decode jdk_35_method_49_code 14 = .ok (.invokestatic 311, 3) := by decide +kernel
theorem own_b9_17 : decode jdk_35_method_49_code 17 = .ok (.iadd, 1) := by decide +kernel
theorem own_b9_18 : decode jdk_35_method_49_code 18 = .ok (.goto 7, 3) := by decide +kernel
theorem own_b9_21 : decode jdk_35_method_49_code 21 = .ok (.iload_n 2, 1) := by decide +kernel
theorem own_b9_22 : decode jdk_35_method_49_code 22 = .ok (.invokestatic 311, 3) := by decide +kernel
theorem own_b9_25 : decode jdk_35_method_49_code 25 = .ok (.ireturn, 1) := by decide +kernel
theorem own_pf_b9 : plainFor (⟨"java/lang/Long", "numberOfTrailingZeros", "(J)I"⟩ : MethodName) = true := by first | exact plainFor_of_name (by first | (simp [plainName, overriddenIn, x]; done) | decide +kernel) | decide +kernel
theorem own_pd_1 : parseMethodDescriptor "(I)I" = some ⟨[.int], some .int⟩ := by decide +kernel
set_option maxRecDepth 65536 in
set_option maxHeartbeats 40000000 in
theorem own_ntzL (l : Launch) (Z : State) (a0 : Array Value) (hw : ∀ d ∈ tables_1, d.before a0 Z = true) (n0 : Nat) (h : Heap) (w : Int64) (T : Nat) (hL : Low w T) :
    Con l Z (⟨"java/lang/Long", "numberOfTrailingZeros", "(J)I"⟩ : MethodName) jdk_35_method_49_code 3 (some .int) ({ frames := 1, cells := 0, slots := 0, locals := 14 } : Room) n0 #[(.long w)] h (R1 fun r h' => (∃ z : Int32, r = .int z ∧ z.toInt = (T : Nat)) ∧ h = h') := by
  refine Con.of (ls := [.val (.long w), .second, .unset]) own_pf_b9 (fun m => by first | (simp [entryFrame, mkF, argsToLocals, Value.category]; done) | rfl) fun k K => ?_
  have k_32 : (32 : Int32).toInt = 32 := rfl
  refine WP.lloadN K 1 own_b9_0 rfl rfl ?_
  refine WP.l2i K 2 own_b9_1 rfl ?_
  refine WP.istoreN K 3 [.val (.long w), .second, .val (.int w.toInt32)] own_b9_2 rfl rfl ?_
  refine WP.iloadN K 4 own_b9_3 rfl rfl ?_
  refine WP.if_ne K 21 7 own_b9_4 (by decide) rfl (fun c4 => ?_) (fun c4 => ?_)
  · skip
    have hT32 : T < 32 := by
      false_or_by_contra
      refine c4 ?_
      have : w.toInt32 = 0 := by
        apply Int32.toBitVec_inj.mp
        apply BitVec.eq_of_getLsbD_eq
        intro i hi
        rw [low_lo _ _ hi, hL.2.2 i (by omega)]; simp
      rw [this]; rfl
    refine WP.iloadN K 22 own_b9_21 rfl rfl ?_
    refine WP.callS K 25 0 0 0 [(.int w.toInt32)] [] (hw _ (List.mem_of_getElem? (i := 49) rfl)) (hw _ (List.mem_of_getElem? (i := 50) rfl)) (hw _ (List.mem_of_getElem? (i := 51) rfl)) (hw _ (List.mem_of_getElem? (i := 52) rfl)) (by decide) own_pd_1 rfl rfl rfl (by decide) (by decide) (Nat.le_of_eq rfl) rfl own_b9_22 rfl rfl rfl (by decide) (by decide) (own_ntzI l Z a0 hw n0 h w.toInt32 T hT32 (by rw [low_lo _ _ hT32]; exact hL.2.1) (fun i hi => by rw [low_lo _ _ (by omega)]; exact hL.2.2 i hi)) (r1_next fun r3 h1 q2 => ?_)
    obtain ⟨⟨zi, rfl, hzi⟩, rfl⟩ := q2
    refine WP.iret K rfl (Or.inl rfl) rfl own_b9_25 ?_ (by decide) (by decide)
    exact ⟨_, rfl, ⟨_, rfl, hzi⟩, rfl⟩
  · skip
    have hT32 : 32 ≤ T := by
      false_or_by_contra
      have e := low_lo w T (by omega)
      rw [hL.2.1, show w.toInt32 = 0 from i32_eq c4] at e
      simp at e
    refine WP.bipush K (32 : Int32) 9 own_b9_7 rfl rfl ?_
    refine WP.lloadN K 10 own_b9_9 rfl rfl ?_
    refine WP.bipush K (32 : Int32) 12 own_b9_10 rfl rfl ?_
    refine WP.lushr K 13 own_b9_12 rfl ?_
    refine WP.l2i K 14 own_b9_13 rfl ?_
    refine WP.callS K 17 0 0 1 [(.int (XT.ushrL w (32 : Int32)).toInt32)] [(.int (32 : Int32))] (hw _ (List.mem_of_getElem? (i := 49) rfl)) (hw _ (List.mem_of_getElem? (i := 50) rfl)) (hw _ (List.mem_of_getElem? (i := 51) rfl)) (hw _ (List.mem_of_getElem? (i := 52) rfl)) (by decide) own_pd_1 rfl rfl rfl (by decide) (by decide) (Nat.le_of_eq rfl) rfl own_b9_14 rfl rfl rfl (by decide) (by decide) (own_ntzI l Z a0 hw n0 h ((XT.ushrL w (32 : Int32)).toInt32) (T - 32) (by have := hL.1; omega) (by rw [low_hi _ _ (by have := hL.1; omega), show T - 32 + 32 = T by omega]; exact hL.2.1) (fun i hi => by rw [low_hi _ _ (by have := hL.1; omega)]; exact hL.2.2 _ (by omega))) (r1_next fun r6 h4 q5 => ?_)
    obtain ⟨⟨zi, rfl, hzi⟩, rfl⟩ := q5
    refine WP.iadd K 18 own_b9_17 rfl ?_
    refine WP.goto K 25 own_b9_18 (by decide) ?_
    refine WP.iret K rfl (Or.inl rfl) rfl own_b9_25 ?_ (by decide) (by decide)
    exact ⟨_, rfl, ⟨_, rfl, by have := hL.1; rw [i32_add (by omega) (by omega)]; omega⟩, rfl⟩
theorem own_b7_0 : decode prog_175_method_3_code 0 = .ok (.aload_n 0, 1) := by decide +kernel
theorem own_b7_1 : decode prog_175_method_3_code 1 = .ok (.getfield 13, 3) := by decide +kernel
theorem own_b7_4 : decode prog_175_method_3_code 4 = .ok (.iconst 0, 1) := by decide +kernel
theorem own_b7_5 : decode prog_175_method_3_code 5 = .ok (.aaload, 1) := by decide +kernel
theorem own_b7_6 : decode prog_175_method_3_code 6 = .ok (.iload_n 1, 1) := by decide +kernel
theorem own_b7_7 : decode prog_175_method_3_code 7 = .ok (.bipush 64, 2) := by decide +kernel
theorem own_b7_9 : decode prog_175_method_3_code 9 = .ok (.idiv, 1) := by decide +kernel
theorem own_b7_10 : decode prog_175_method_3_code 10 = .ok (.laload, 1) := by decide +kernel
theorem own_b7_11 : decode prog_175_method_3_code 11 = .ok (.lconst 1, 1) := by decide +kernel
theorem own_b7_12 : decode prog_175_method_3_code 12 = .ok (.iload_n 1, 1) := by decide +kernel
theorem own_b7_13 : decode prog_175_method_3_code 13 = .ok (.lshl, 1) := by decide +kernel
theorem own_b7_14 : decode prog_175_method_3_code 14 = .ok (.land, 1) := by decide +kernel
theorem own_b7_15 : decode prog_175_method_3_code 15 = .ok (.lconst 0, 1) := by decide +kernel
theorem own_b7_16 : decode prog_175_method_3_code 16 = .ok (.lcmp, 1) := by decide +kernel
theorem own_b7_17 : decode prog_175_method_3_code 17 = .ok (.ifCond .eq 7, 3) := by decide +kernel
theorem own_b7_20 : decode prog_175_method_3_code 20 = .ok (.iconst 1, 1) := by decide +kernel
theorem own_b7_21 : decode prog_175_method_3_code 21 = .ok (.goto 4, 3) := by decide +kernel
theorem own_b7_24 : decode prog_175_method_3_code 24 = .ok (.iconst 0, 1) := by decide +kernel
theorem own_b7_25 : decode prog_175_method_3_code 25 = .ok (.ireturn, 1) := by decide +kernel
theorem own_pf_b7 : plainFor (⟨"com/example/curtail/curtail/SlotSet", "contains", "(I)Z"⟩ : MethodName) = true := by first | exact plainFor_of_name (by first | (simp [plainName, overriddenIn, x]; done) | decide +kernel) | decide +kernel
set_option maxRecDepth 65536 in
set_option maxHeartbeats 40000000 in
theorem own_contains (l : Launch) (Z : State) (a0 : Array Value) (hw : ∀ d ∈ tables_1, d.before a0 Z = true) (n0 : Nat) (h : Heap) (o lv : Nat) (as : List Nat) (Ws : List (List Int64)) (cap : Nat) (S : Nat → Prop) (H : SS Z h n0 o lv as Ws) (G : Good cap S Ws) (x : Int32) (n : Nat) (hx : x.toInt = (n : Nat)) (hn : n < cap) :
    Con l Z (⟨"com/example/curtail/curtail/SlotSet", "contains", "(I)Z"⟩ : MethodName) prog_175_method_3_code 2 (some .boolean) ({ frames := 0, cells := 0, slots := 0, locals := 0 } : Room) n0 #[(.ref o), (.int x)] h (R1 fun r h' => ((r = .int 1 ∧ S n) ∨ (r = .int 0 ∧ ¬ S n)) ∧ h = h') := by
  refine Con.of (ls := [.val (.ref o), .val (.int x)]) own_pf_b7 (fun m => by first | (simp [entryFrame, mkF, argsToLocals, Value.category]; done) | rfl) fun k K => ?_
  have k_0 : (0 : Int32).toInt = 0 := rfl
  have kL_0 : (0 : Int64).toInt = 0 := rfl
  have k_1 : (1 : Int32).toInt = 1 := rfl
  have kL_1 : (1 : Int64).toInt = 1 := rfl
  have k_64 : (64 : Int32).toInt = 64 := rfl
  have H0 := H
  obtain ⟨Ex, Fl, R_lv, hlen, -, -, -⟩ := H
  obtain ⟨W, hW⟩ : ∃ W, Ws[0]? = some W := ⟨_, List.getElem?_eq_getElem G.1.1⟩
  obtain ⟨a, ha, hr, A_a, na⟩ := H0.at hW
  have hb := szs_bound G.1 hn 0 W hW
  rw [Nat.pow_zero, Nat.div_one] at hb
  have hq := ss_div hx
  have hg := ss_get (W := W) (i := n / 64) (by omega)
  have hh := lb_has (W := W) hx
  have hl := G.2.2 0 W hW n hb
  have hu : Up S 0 n ↔ S n := ⟨fun ⟨s, q1, q2⟩ => by rw [Nat.pow_zero, Nat.div_one] at q2; exact q2 ▸ q1, fun q => ⟨n, q, by simp⟩⟩
  refine WP.aloadN K 1 own_b7_0 rfl rfl rfl ?_
  refine WP.getfield K (host := "") 4 (Or.inl (hw _ (List.mem_of_getElem? (i := 17) rfl))) Via.refl Fl own_b7_1 rfl ?_
  refine WP.iconst K (0 : Int32) 5 own_b7_4 rfl rfl ?_
  refine WP.aaload K 6 0 R_lv.v rfl rfl hr own_b7_5 rfl ?_
  refine WP.iloadN K 7 own_b7_6 rfl rfl ?_
  refine WP.bipush K (64 : Int32) 9 own_b7_7 rfl rfl ?_
  refine WP.idiv K 10 own_b7_9 rfl (by decide) ?_
  refine WP.laload K 11 (n / 64) A_a hq hg own_b7_10 rfl ?_
  refine WP.lconst K (1 : Int64) 12 own_b7_11 rfl rfl ?_
  refine WP.iloadN K 13 own_b7_12 rfl rfl ?_
  refine WP.lshl K 14 own_b7_13 rfl ?_
  refine WP.land K 15 own_b7_14 rfl ?_
  refine WP.lconst K (0 : Int64) 16 own_b7_15 rfl rfl ?_
  refine WP.lcmp K 17 own_b7_16 rfl ?_
  refine WP.ifl_eq K 24 20 own_b7_17 (by decide) rfl (fun c17 => ?_) (fun c17 => ?_)
  · skip
    refine WP.iconst K (0 : Int32) 25 own_b7_24 rfl rfl ?_
    refine WP.iret K rfl (Or.inr (Or.inl rfl)) rfl own_b7_25 ?_ (by decide) (by decide)
    exact ⟨_, rfl, Or.inr ⟨rfl, fun q => by have := hl.mpr (hu.mpr q); rw [hh.mp c17] at this; cases this⟩, rfl⟩
  · skip
    refine WP.iconst K (1 : Int32) 21 own_b7_20 rfl rfl ?_
    refine WP.goto K 25 own_b7_21 (by decide) ?_
    refine WP.iret K rfl (Or.inr (Or.inl rfl)) rfl own_b7_25 ?_ (by decide) (by decide)
    exact ⟨_, rfl, Or.inl ⟨rfl, hu.mp (hl.mp (by cases e : lb W n; exact absurd (hh.mpr e) c17; rfl))⟩, rfl⟩
theorem own_b6_0 : decode prog_175_method_2_code 0 = .ok (.aload_n 0, 1) := by decide +kernel
theorem own_b6_1 : decode prog_175_method_2_code 1 = .ok (.getfield 13, 3) := by decide +kernel
theorem own_b6_4 : decode prog_175_method_2_code 4 = .ok (.aload_n 0, 1) := by decide +kernel
theorem own_b6_5 : decode prog_175_method_2_code 5 = .ok (.getfield 13, 3) := by decide +kernel
theorem own_b6_8 : decode prog_175_method_2_code 8 = .ok (.arraylength, 1) := by decide +kernel
theorem own_b6_9 : decode prog_175_method_2_code 9 = .ok (.iconst 1, 1) := by decide +kernel
theorem own_b6_10 : decode prog_175_method_2_code 10 = .ok (.isub, 1) := by decide +kernel
theorem own_b6_11 : decode prog_175_method_2_code 11 = .ok (.aaload, 1) := by decide +kernel
theorem own_b6_12 : decode prog_175_method_2_code 12 = .ok (.iconst 0, 1) := by decide +kernel
theorem own_b6_13 : decode prog_175_method_2_code 13 = .ok (.laload, 1) := by decide +kernel
theorem own_b6_14 : decode prog_175_method_2_code 14 = .ok (.lconst 0, 1) := by decide +kernel
theorem own_b6_15 : decode prog_175_method_2_code 15 = .ok (.lcmp, 1) := by decide +kernel
theorem own_b6_16 : decode prog_175_method_2_code 16 = .ok (.ifCond .ne 7, 3) := by decide +kernel
theorem own_b6_19 : decode prog_175_method_2_code 19 = .ok (.iconst 1, 1) := by decide +kernel
theorem own_b6_20 : decode prog_175_method_2_code 20 = .ok (.goto 4, 3) := by decide +kernel
theorem own_b6_23 : decode prog_175_method_2_code 23 = .ok (.iconst 0, 1) := by decide +kernel
theorem own_b6_24 : decode prog_175_method_2_code 24 = .ok (.ireturn, 1) := by decide +kernel
theorem own_pf_b6 : plainFor (⟨"com/example/curtail/curtail/SlotSet", "isEmpty", "()Z"⟩ : MethodName) = true := by first | exact plainFor_of_name (by first | (simp [plainName, overriddenIn, x]; done) | decide +kernel) | decide +kernel
set_option maxRecDepth 65536 in
set_option maxHeartbeats 40000000 in
theorem own_isempty (l : Launch) (Z : State) (a0 : Array Value) (hw : ∀ d ∈ tables_1, d.before a0 Z = true) (n0 : Nat) (h : Heap) (o lv : Nat) (as : List Nat) (Ws : List (List Int64)) (cap : Nat) (S : Nat → Prop) (H : SS Z h n0 o lv as Ws) (G : Good cap S Ws) :
    Con l Z (⟨"com/example/curtail/curtail/SlotSet", "isEmpty", "()Z"⟩ : MethodName) prog_175_method_2_code 1 (some .boolean) ({ frames := 0, cells := 0, slots := 0, locals := 0 } : Room) n0 #[(.ref o)] h (R1 fun r h' => ((r = .int 1 ∧ ∀ s, ¬ S s) ∨ (r = .int 0 ∧ ∃ s, S s)) ∧ h = h') := by
  refine Con.of (ls := [.val (.ref o)]) own_pf_b6 (fun m => by first | (simp [entryFrame, mkF, argsToLocals, Value.category]; done) | rfl) fun k K => ?_
  have k_0 : (0 : Int32).toInt = 0 := rfl
  have kL_0 : (0 : Int64).toInt = 0 := rfl
  have k_1 : (1 : Int32).toInt = 1 := rfl
  have H0 := H
  obtain ⟨Ex, Fl, R_lv, hlen, -, -, -⟩ := H
  have hp := G.1.1
  obtain ⟨W, hW⟩ : ∃ W, Ws[Ws.length - 1]? = some W := ⟨_, List.getElem?_eq_getElem (by omega)⟩
  obtain ⟨a, ha, hr, A_a, na⟩ := H0.at hW
  have hw1 := G.1.2.2.2.1 W hW
  have hl100 := G.1.2.2.2.2.2
  obtain ⟨z, hz⟩ : ∃ z : Int32, z.toInt = (Ws.length : Nat) := i32_of (by omega)
  have hz1 : (z - (1 : Int32)).toInt = ((Ws.length - 1 : Nat) : Int) := by rw [i32_sub (by omega) (by omega)]; omega
  have hg := ss_get (W := W) (i := 0) (by omega)
  have hbt := bt_nil (W.getD 0 0)
  have hl := G.2.2 _ W hW
  refine WP.aloadN K 1 own_b6_0 rfl rfl rfl ?_
  refine WP.getfield K (host := "") 4 (Or.inl (hw _ (List.mem_of_getElem? (i := 17) rfl))) Via.refl Fl own_b6_1 rfl ?_
  refine WP.aloadN K 5 own_b6_4 rfl rfl rfl ?_
  refine WP.getfield K (host := "") 8 (Or.inl (hw _ (List.mem_of_getElem? (i := 17) rfl))) Via.refl Fl own_b6_5 rfl ?_
  refine WP.arraylength K z 9 R_lv.v (by rw [hz, List.length_map, hlen]) own_b6_8 rfl ?_
  refine WP.iconst K (1 : Int32) 10 own_b6_9 rfl rfl ?_
  refine WP.isub K 11 own_b6_10 rfl ?_
  refine WP.aaload K 12 (Ws.length - 1) R_lv.v rfl hz1 hr own_b6_11 rfl ?_
  refine WP.iconst K (0 : Int32) 13 own_b6_12 rfl rfl ?_
  refine WP.laload K 14 0 A_a rfl hg own_b6_13 rfl ?_
  refine WP.lconst K (0 : Int64) 15 own_b6_14 rfl rfl ?_
  refine WP.lcmp K 16 own_b6_15 rfl ?_
  refine WP.ifl_ne K 23 19 own_b6_16 (by decide) rfl (fun c16 => ?_) (fun c16 => ?_)
  · skip
    refine WP.iconst K (0 : Int32) 24 own_b6_23 rfl rfl ?_
    refine WP.iret K rfl (Or.inr (Or.inl rfl)) rfl own_b6_24 ?_ (by decide) (by decide)
    refine ⟨_, rfl, Or.inr ⟨rfl, ?_⟩, rfl⟩
    obtain ⟨T, hT⟩ := low_of c16
    obtain ⟨s, q, -⟩ := (hl (64 * 0 + T) (by have := hT.1; omega)).mp (by rw [word_bit hT.1]; exact hT.2.1)
    exact ⟨s, q⟩
  · skip
    refine WP.iconst K (1 : Int32) 20 own_b6_19 rfl rfl ?_
    refine WP.goto K 24 own_b6_20 (by decide) ?_
    refine WP.iret K rfl (Or.inr (Or.inl rfl)) rfl own_b6_24 ?_ (by decide) (by decide)
    refine ⟨_, rfl, Or.inl ⟨rfl, fun s hs => ?_⟩, rfl⟩
    have hb := szs_bound G.1 (G.2.1 s hs) _ W hW
    have e := (hl _ hb).mpr ⟨s, hs, rfl⟩
    unfold lb at e
    rw [show s / 64 ^ (Ws.length - 1) / 64 = 0 from Nat.div_eq_of_lt (by omega), hbt.mp c16 _ (by omega)] at e
    cases e
theorem own_b5_0 : decode prog_175_method_4_code 0 = .ok (.iload_n 1, 1) := by decide +kernel
theorem own_b5_1 : decode prog_175_method_4_code 1 = .ok (.istore_n 2, 1) := by decide +kernel
theorem own_b5_2 : decode prog_175_method_4_code 2 = .ok (.aload_n 0, 1) := by decide +kernel
theorem own_b5_3 : decode prog_175_method_4_code 3 = .ok (.getfield 13, 3) := by decide +kernel
theorem own_b5_6 : decode prog_175_method_4_code 6 = .ok (.astore_n 3, 1) := by decide +kernel
theorem own_b5_7 : decode prog_175_method_4_code 7 = .ok (.aload_n 3, 1) := by decide +kernel
theorem own_b5_8 : decode prog_175_method_4_code 8 = .ok (.arraylength, 1) := by decide +kernel
theorem own_b5_9 : decode prog_175_method_4_code 9 = .ok (.istore 4, 2) := by decide +kernel
theorem own_b5_11 : decode prog_175_method_4_code 11 = .ok (.iconst 0, 1) := by decide +kernel
theorem own_b5_12 : decode prog_175_method_4_code 12 = .ok (.istore 5, 2) := by decide +kernel
theorem own_b5_14 : decode prog_175_method_4_code 14 = .ok (.iload 5, 2) := by decide +kernel
theorem own_b5_16 : decode prog_175_method_4_code 16 = .ok (.iload 4, 2) := by decide +kernel
theorem own_b5_18 : decode prog_175_method_4_code 18 = .ok (.if_icmp .ge 50, 3) := by decide +kernel
theorem own_b5_21 : decode prog_175_method_4_code 21 = .ok (.aload_n 3, 1) := by decide +kernel
theorem own_b5_22 : decode prog_175_method_4_code 22 = .ok (.iload 5, 2) := by decide +kernel
theorem own_b5_24 : decode prog_175_method_4_code 24 = .ok (.aaload, 1) := by decide +kernel
theorem own_b5_25 : decode prog_175_method_4_code 25 = .ok (.astore 6, 2) := by decide +kernel
theorem own_b5_27 : decode prog_175_method_4_code 27 = .ok (.aload 6, 2) := by decide +kernel
theorem own_b5_29 : decode prog_175_method_4_code 29 = .ok (.iload_n 2, 1) := by decide +kernel
theorem own_b5_30 : decode prog_175_method_4_code 30 = .ok (.bipush 64, 2) := by decide +kernel
theorem own_b5_32 : decode prog_175_method_4_code 32 = .ok (.idiv, 1) := by decide +kernel
theorem own_b5_33 : decode prog_175_method_4_code 33 = .ok (.laload, 1) := by decide +kernel
theorem own_b5_34 : decode prog_175_method_4_code 34 = .ok (.lstore 7, 2) := by decide +kernel
theorem own_b5_36 : decode prog_175_method_4_code 36 = .ok (.aload 6, 2) := by decide +kernel
theorem own_b5_38 : decode prog_175_method_4_code 38 = .ok (.iload_n 2, 1) := by decide +kernel
theorem own_b5_39 : decode prog_175_method_4_code 39 = .ok (.bipush 64, 2) := by decide +kernel
theorem own_b5_41 : decode prog_175_method_4_code 41 = .ok (.idiv, 1) := by decide +kernel
theorem own_b5_42 : decode prog_175_method_4_code 42 = .ok (.lload 7, 2) := by decide +kernel
theorem own_b5_44 : decode prog_175_method_4_code 44 = .ok (.lconst 1, 1) := by decide +kernel
theorem own_b5_45 : decode prog_175_method_4_code 45 = .ok (.iload_n 2, 1) := by decide +kernel
theorem own_b5_46 : decode prog_175_method_4_code 46 = .ok (.lshl, 1) := by decide +kernel
theorem own_b5_47 : decode prog_175_method_4_code 47 = .ok (.lor, 1) := by decide +kernel
theorem own_b5_48 : decode prog_175_method_4_code 48 = .ok (.lastore, 1) := by decide +kernel
theorem own_b5_49 : decode prog_175_method_4_code 49 = .ok (.lload 7, 2) := by decide +kernel
theorem own_b5_51 : decode prog_175_method_4_code 51 = .ok (.lconst 0, 1) := by decide +kernel
theorem own_b5_52 : decode prog_175_method_4_code 52 = .ok (.lcmp, 1) := by decide +kernel
theorem own_b5_53 : decode prog_175_method_4_code 53 = .ok (.ifCond .eq 4, 3) := by decide +kernel
theorem own_b5_56 : decode prog_175_method_4_code 56 = .ok (.return_, 1) := by decide +kernel
theorem own_b5_57 : decode prog_175_method_4_code 57 = .ok (.iload_n 2, 1) := by decide +kernel
theorem own_b5_58 : decode prog_175_method_4_code 58 = .ok (.bipush 64, 2) := by decide +kernel
theorem own_b5_60 : decode prog_175_method_4_code 60 = .ok (.idiv, 1) := by decide +kernel
theorem own_b5_61 : decode prog_175_method_4_code 61 = .ok (.istore_n 2, 1) := by decide +kernel
theorem own_b5_62 : decode prog_175_method_4_code 62 = .ok (.iinc 5 1, 3) := by decide +kernel
theorem own_b5_65 : decode prog_175_method_4_code 65 = .ok (.goto (-51), 3) := by decide +kernel
theorem own_b5_68 : decode prog_175_method_4_code 68 = .ok (.return_, 1) := by decide +kernel
theorem own_pf_b5 : plainFor (⟨"com/example/curtail/curtail/SlotSet", "add", "(I)V"⟩ : MethodName) = true := by first | exact plainFor_of_name (by first | (simp [plainName, overriddenIn, x]; done) | decide +kernel) | decide +kernel
set_option maxRecDepth 65536 in
set_option maxHeartbeats 40000000 in
theorem own_add (l : Launch) (Z : State) (a0 : Array Value) (hw : ∀ d ∈ tables_1, d.before a0 Z = true) (n0 : Nat) (h : Heap) (o lv : Nat) (as : List Nat) (Ws : List (List Int64)) (cap : Nat) (S : Nat → Prop) (H : SS Z h n0 o lv as Ws) (G : Good cap S Ws) (x : Int32) (n : Nat) (hx : x.toInt = (n : Nat)) (hn : n < cap) :
    Con l Z (⟨"com/example/curtail/curtail/SlotSet", "add", "(I)V"⟩ : MethodName) prog_175_method_4_code 9 none ({ frames := 0, cells := 0, slots := 0, locals := 0 } : Room) n0 #[(.ref o), (.int x)] h (R0 fun h' => Keep h h' as ∧ ∃ Ws', SS Z h' n0 o lv as Ws' ∧ Good cap (fun s => S s ∨ s = n) Ws') := by
  refine Con.of (ls := [.val (.ref o), .val (.int x), .unset, .unset, .unset, .unset, .unset, .unset, .unset]) own_pf_b5 (fun m => by first | (simp [entryFrame, mkF, argsToLocals, Value.category]; done) | rfl) fun k K => ?_
  have k_0 : (0 : Int32).toInt = 0 := rfl
  have kL_0 : (0 : Int64).toInt = 0 := rfl
  have k_1 : (1 : Int32).toInt = 1 := rfl
  have kL_1 : (1 : Int64).toInt = 1 := rfl
  have k_64 : (64 : Int32).toInt = 64 := rfl
  have H0 := H
  obtain ⟨Ex, Fl, R_lv, hlen, -, -, -⟩ := H
  have hl100 := G.1.2.2.2.2.2
  obtain ⟨z, hz⟩ : ∃ z : Int32, z.toInt = (Ws.length : Nat) := i32_of (by omega)
  have loop : ∀ (m j : Nat) (hh : Heap) (Vs : List (List Int64)) (sl i5 : Int32) (s6 s7 s8 : Slot), ((s6 = .unset ∧ s7 = .unset ∧ s8 = .unset) ∨ ∃ (u : Nat) (v : Int64), s6 = .val (.ref u) ∧ s7 = .val (.long v) ∧ s8 = .second) → j + m = Vs.length → Vs.length = Ws.length → sl.toInt = ((n / 64 ^ j : Nat) : Int) → i5.toInt = (j : Nat) → Keep h hh as → SS Z hh n0 o lv as Vs → Szs cap Vs → (∀ (i : Nat) (W : List Int64), Vs[i]? = some W → Lv W (fun s => S s ∨ (i < j ∧ s = n)) i) →
      WP k hh 0 0 14 [.val (.ref o), .val (.int x), .val (.int sl), .val (.ref lv), .val (.int z), .val (.int i5), s6, s7, s8] [] := by
    intro m
    induction m with
    | zero =>
      intro j hh Vs sl i5 s6 s7 s8 hsh hm hVl hsl hi5 Kp Hs hS hL
      rcases hsh with ⟨rfl, rfl, rfl⟩ | ⟨u, v, rfl, rfl, rfl⟩
      · skip
        refine WP.iload K 16 own_b5_14 rfl rfl ?_
        refine WP.iload K 18 own_b5_16 rfl rfl ?_
        refine WP.icmp_ge K 68 21 own_b5_18 (by decide) rfl (fun c18 => ?_) (fun c18 => ?_)
        · skip
          refine WP.retV K rfl own_b5_68 ?_ (by decide) (by decide)
          refine ⟨rfl, Kp, Vs, Hs, hS, ?_, fun i W hW => ?_⟩
          · intro s hs
            rcases hs with q | rfl
            · exact G.2.1 s q
            · exact hn
          · have hlt := (List.getElem?_eq_some_iff.mp hW).1
            have := hL i W hW
            rw [show (fun s => S s ∨ (i < j ∧ s = n)) = (fun s => S s ∨ s = n) from funext fun s => propext (by constructor <;> intro q <;> first | (rcases q with q | q <;> first | exact Or.inl q | exact Or.inr q.2 | exact Or.inr ⟨by omega, q⟩) | exact ⟨q.1, fun e => q.2 ⟨by omega, e⟩⟩ | exact ⟨q.1, fun e => q.2 e.2⟩)] at this
            exact this
        · skip
          exfalso; omega
      · skip
        refine WP.iload K 16 own_b5_14 rfl rfl ?_
        refine WP.iload K 18 own_b5_16 rfl rfl ?_
        refine WP.icmp_ge K 68 21 own_b5_18 (by decide) rfl (fun c18 => ?_) (fun c18 => ?_)
        · skip
          refine WP.retV K rfl own_b5_68 ?_ (by decide) (by decide)
          refine ⟨rfl, Kp, Vs, Hs, hS, ?_, fun i W hW => ?_⟩
          · intro s hs
            rcases hs with q | rfl
            · exact G.2.1 s q
            · exact hn
          · have hlt := (List.getElem?_eq_some_iff.mp hW).1
            have := hL i W hW
            rw [show (fun s => S s ∨ (i < j ∧ s = n)) = (fun s => S s ∨ s = n) from funext fun s => propext (by constructor <;> intro q <;> first | (rcases q with q | q <;> first | exact Or.inl q | exact Or.inr q.2 | exact Or.inr ⟨by omega, q⟩) | exact ⟨q.1, fun e => q.2 ⟨by omega, e⟩⟩ | exact ⟨q.1, fun e => q.2 e.2⟩)] at this
            exact this
        · skip
          exfalso; omega
    | succ m ih =>
      intro j hh Vs sl i5 s6 s7 s8 hsh hm hVl hsl hi5 Kp Hs hS hL
      rcases hsh with ⟨rfl, rfl, rfl⟩ | ⟨u, v, rfl, rfl, rfl⟩
      · skip
        refine WP.iload K 16 own_b5_14 rfl rfl ?_
        refine WP.iload K 18 own_b5_16 rfl rfl ?_
        refine WP.icmp_ge K 68 21 own_b5_18 (by decide) rfl (fun c18 => ?_) (fun c18 => ?_)
        · skip
          exfalso; omega
        · skip
          obtain ⟨W, hW⟩ : ∃ W, Vs[j]? = some W := ⟨_, List.getElem?_eq_getElem (by omega)⟩
          obtain ⟨a, ha, hr, A_a, n0_a⟩ := Hs.at hW
          have R_lv := Hs.2.2.1
          have hbd := szs_bound hS hn j W hW
          have hq := ss_div hsl
          have hg := ss_get (W := W) (i := n / 64 ^ j / 64) (by omega)
          have hLj := hL j W hW
          rw [show (fun s => S s ∨ (j < j ∧ s = n)) = S from funext fun s => propext (by simp)] at hLj
          refine WP.aloadN K 22 own_b5_21 rfl rfl rfl ?_
          refine WP.iload K 24 own_b5_22 rfl rfl ?_
          refine WP.aaload K 25 j R_lv.v rfl hi5 hr own_b5_24 rfl ?_
          refine WP.astore K 27 [.val (.ref o), .val (.int x), .val (.int sl), .val (.ref lv), .val (.int z), .val (.int i5), .val (.ref a), .unset, .unset] own_b5_25 rfl rfl rfl ?_
          refine WP.aload K 29 own_b5_27 rfl rfl rfl ?_
          refine WP.iloadN K 30 own_b5_29 rfl rfl ?_
          refine WP.bipush K (64 : Int32) 32 own_b5_30 rfl rfl ?_
          refine WP.idiv K 33 own_b5_32 rfl (by decide) ?_
          refine WP.laload K 34 (n / 64 ^ j / 64) A_a hq hg own_b5_33 rfl ?_
          refine WP.lstore K 36 [.val (.ref o), .val (.int x), .val (.int sl), .val (.ref lv), .val (.int z), .val (.int i5), .val (.ref a), .val (.long (W.getD (n / 64 ^ j / 64) 0)), .second] own_b5_34 rfl rfl ?_
          refine WP.aload K 38 own_b5_36 rfl rfl rfl ?_
          refine WP.iloadN K 39 own_b5_38 rfl rfl ?_
          refine WP.bipush K (64 : Int32) 41 own_b5_39 rfl rfl ?_
          refine WP.idiv K 42 own_b5_41 rfl (by decide) ?_
          refine WP.lload K 44 own_b5_42 rfl rfl ?_
          refine WP.lconst K (1 : Int64) 45 own_b5_44 rfl rfl ?_
          refine WP.iloadN K 46 own_b5_45 rfl rfl ?_
          refine WP.lshl K 47 own_b5_46 rfl ?_
          refine WP.lor K 48 own_b5_47 rfl ?_
          refine WP.lastore K 49 (n / 64 ^ j / 64) A_a hq (by omega) own_b5_48 rfl n0_a (fun h1 K2 A_a => ?_)
          have Hs2 := Hs.set ha K2 A_a
          have hS2 := szs_set hS hW (W' := W.set (n / 64 ^ j / 64) ((W.getD (n / 64 ^ j / 64) 0) ||| ((1 : Int64) <<< (sl.toInt64 &&& 63)))) (by rw [List.length_set])
          have Kp2 : Keep h h1 as := Kp.trans K2 (fun y hy => Or.inl (by rw [List.mem_singleton.mp hy]; exact List.mem_of_getElem? ha))
          have hjV : j < Vs.length := (List.getElem?_eq_some_iff.mp hW).1
          have hnew := lv_add hLj hsl (by omega)
          refine WP.lload K 51 own_b5_49 rfl rfl ?_
          refine WP.lconst K (0 : Int64) 52 own_b5_51 rfl rfl ?_
          refine WP.lcmp K 53 own_b5_52 rfl ?_
          refine WP.ifl_eq K 57 56 own_b5_53 (by decide) rfl (fun c53 => ?_) (fun c53 => ?_)
          · skip
            refine WP.iloadN K 58 own_b5_57 rfl rfl ?_
            refine WP.bipush K (64 : Int32) 60 own_b5_58 rfl rfl ?_
            refine WP.idiv K 61 own_b5_60 rfl (by decide) ?_
            refine WP.istoreN K 62 [.val (.ref o), .val (.int x), .val (.int (sl / (64 : Int32))), .val (.ref lv), .val (.int z), .val (.int i5), .val (.ref a), .val (.long (W.getD (n / 64 ^ j / 64) 0)), .second] own_b5_61 rfl rfl ?_
            refine WP.iinc K (1 : Int32) 65 [.val (.ref o), .val (.int x), .val (.int (sl / (64 : Int32))), .val (.ref lv), .val (.int z), .val (.int (i5 + (1 : Int32))), .val (.ref a), .val (.long (W.getD (n / 64 ^ j / 64) 0)), .second] own_b5_62 rfl rfl rfl rfl ?_
            refine WP.goto K 14 own_b5_65 (by decide) ?_
            refine ih (j + 1) _ _ _ _ _ _ _ (Or.inr ⟨_, _, rfl, rfl, rfl⟩) (by rw [List.length_set]; omega) (by rw [List.length_set]; exact hVl) (by rw [hq, ← div_up]) (inc32 hi5 (by omega)) Kp2 Hs2 hS2 (fun i V hV => ?_)
            · by_cases c : j = i
              · subst c
                rw [List.getElem?_set_self hjV] at hV
                cases hV
                rw [show (fun s => S s ∨ (j < j + 1 ∧ s = n)) = (fun s => S s ∨ s = n) from funext fun s => propext (by simp)]
                exact hnew
              · rw [List.getElem?_set_ne c] at hV
                have hLi := hL i V hV
                rw [show (fun s => S s ∨ (i < j ∧ s = n)) = (fun s => S s ∨ (i < j + 1 ∧ s = n)) from funext fun s => propext (by rw [show (i < j + 1) = (i < j) from propext (by omega)])] at hLi
                exact hLi
          · skip
            refine WP.retV K rfl own_b5_56 ?_ (by decide) (by decide)
            refine ⟨rfl, Kp2, _, Hs2, hS2, ?_, fun i V hV => ?_⟩
            · rintro s (q | rfl)
              · exact G.2.1 s q
              · exact hn
            · by_cases c : j = i
              · subst c
                rw [List.getElem?_set_self hjV] at hV
                cases hV; exact hnew
              · rw [List.getElem?_set_ne c] at hV
                have hLi := hL i V hV
                by_cases d : i < j
                · rw [show (fun s => S s ∨ (i < j ∧ s = n)) = (fun s => S s ∨ s = n) from funext fun s => propext (by simp [d])] at hLi
                  exact hLi
                · rw [show (fun s => S s ∨ (i < j ∧ s = n)) = S from funext fun s => propext (by simp [d])] at hLi
                  obtain ⟨T, hT⟩ := low_of c53
                  obtain ⟨s0, q1, q2⟩ := (hLj (64 * (n / 64 ^ j / 64) + T) (by have := hT.1; omega)).mp (by rw [word_bit hT.1]; exact hT.2.1)
                  exact lv_more hLi q1 (up_meet (j := j) (by rw [div_up, div_up, q2]; have := hT.1; omega) i (by omega))
      · skip
        refine WP.iload K 16 own_b5_14 rfl rfl ?_
        refine WP.iload K 18 own_b5_16 rfl rfl ?_
        refine WP.icmp_ge K 68 21 own_b5_18 (by decide) rfl (fun c18 => ?_) (fun c18 => ?_)
        · skip
          exfalso; omega
        · skip
          obtain ⟨W, hW⟩ : ∃ W, Vs[j]? = some W := ⟨_, List.getElem?_eq_getElem (by omega)⟩
          obtain ⟨a, ha, hr, A_a, n0_a⟩ := Hs.at hW
          have R_lv := Hs.2.2.1
          have hbd := szs_bound hS hn j W hW
          have hq := ss_div hsl
          have hg := ss_get (W := W) (i := n / 64 ^ j / 64) (by omega)
          have hLj := hL j W hW
          rw [show (fun s => S s ∨ (j < j ∧ s = n)) = S from funext fun s => propext (by simp)] at hLj
          refine WP.aloadN K 22 own_b5_21 rfl rfl rfl ?_
          refine WP.iload K 24 own_b5_22 rfl rfl ?_
          refine WP.aaload K 25 j R_lv.v rfl hi5 hr own_b5_24 rfl ?_
          refine WP.astore K 27 [.val (.ref o), .val (.int x), .val (.int sl), .val (.ref lv), .val (.int z), .val (.int i5), .val (.ref a), .val (.long v), .second] own_b5_25 rfl rfl rfl ?_
          refine WP.aload K 29 own_b5_27 rfl rfl rfl ?_
          refine WP.iloadN K 30 own_b5_29 rfl rfl ?_
          refine WP.bipush K (64 : Int32) 32 own_b5_30 rfl rfl ?_
          refine WP.idiv K 33 own_b5_32 rfl (by decide) ?_
          refine WP.laload K 34 (n / 64 ^ j / 64) A_a hq hg own_b5_33 rfl ?_
          refine WP.lstore K 36 [.val (.ref o), .val (.int x), .val (.int sl), .val (.ref lv), .val (.int z), .val (.int i5), .val (.ref a), .val (.long (W.getD (n / 64 ^ j / 64) 0)), .second] own_b5_34 rfl rfl ?_
          refine WP.aload K 38 own_b5_36 rfl rfl rfl ?_
          refine WP.iloadN K 39 own_b5_38 rfl rfl ?_
          refine WP.bipush K (64 : Int32) 41 own_b5_39 rfl rfl ?_
          refine WP.idiv K 42 own_b5_41 rfl (by decide) ?_
          refine WP.lload K 44 own_b5_42 rfl rfl ?_
          refine WP.lconst K (1 : Int64) 45 own_b5_44 rfl rfl ?_
          refine WP.iloadN K 46 own_b5_45 rfl rfl ?_
          refine WP.lshl K 47 own_b5_46 rfl ?_
          refine WP.lor K 48 own_b5_47 rfl ?_
          refine WP.lastore K 49 (n / 64 ^ j / 64) A_a hq (by omega) own_b5_48 rfl n0_a (fun h3 K4 A_a => ?_)
          have Hs2 := Hs.set ha K4 A_a
          have hS2 := szs_set hS hW (W' := W.set (n / 64 ^ j / 64) ((W.getD (n / 64 ^ j / 64) 0) ||| ((1 : Int64) <<< (sl.toInt64 &&& 63)))) (by rw [List.length_set])
          have Kp2 : Keep h h3 as := Kp.trans K4 (fun y hy => Or.inl (by rw [List.mem_singleton.mp hy]; exact List.mem_of_getElem? ha))
          have hjV : j < Vs.length := (List.getElem?_eq_some_iff.mp hW).1
          have hnew := lv_add hLj hsl (by omega)
          refine WP.lload K 51 own_b5_49 rfl rfl ?_
          refine WP.lconst K (0 : Int64) 52 own_b5_51 rfl rfl ?_
          refine WP.lcmp K 53 own_b5_52 rfl ?_
          refine WP.ifl_eq K 57 56 own_b5_53 (by decide) rfl (fun c53 => ?_) (fun c53 => ?_)
          · skip
            refine WP.iloadN K 58 own_b5_57 rfl rfl ?_
            refine WP.bipush K (64 : Int32) 60 own_b5_58 rfl rfl ?_
            refine WP.idiv K 61 own_b5_60 rfl (by decide) ?_
            refine WP.istoreN K 62 [.val (.ref o), .val (.int x), .val (.int (sl / (64 : Int32))), .val (.ref lv), .val (.int z), .val (.int i5), .val (.ref a), .val (.long (W.getD (n / 64 ^ j / 64) 0)), .second] own_b5_61 rfl rfl ?_
            refine WP.iinc K (1 : Int32) 65 [.val (.ref o), .val (.int x), .val (.int (sl / (64 : Int32))), .val (.ref lv), .val (.int z), .val (.int (i5 + (1 : Int32))), .val (.ref a), .val (.long (W.getD (n / 64 ^ j / 64) 0)), .second] own_b5_62 rfl rfl rfl rfl ?_
            refine WP.goto K 14 own_b5_65 (by decide) ?_
            refine ih (j + 1) _ _ _ _ _ _ _ (Or.inr ⟨_, _, rfl, rfl, rfl⟩) (by rw [List.length_set]; omega) (by rw [List.length_set]; exact hVl) (by rw [hq, ← div_up]) (inc32 hi5 (by omega)) Kp2 Hs2 hS2 (fun i V hV => ?_)
            · by_cases c : j = i
              · subst c
                rw [List.getElem?_set_self hjV] at hV
                cases hV
                rw [show (fun s => S s ∨ (j < j + 1 ∧ s = n)) = (fun s => S s ∨ s = n) from funext fun s => propext (by simp)]
                exact hnew
              · rw [List.getElem?_set_ne c] at hV
                have hLi := hL i V hV
                rw [show (fun s => S s ∨ (i < j ∧ s = n)) = (fun s => S s ∨ (i < j + 1 ∧ s = n)) from funext fun s => propext (by rw [show (i < j + 1) = (i < j) from propext (by omega)])] at hLi
                exact hLi
          · skip
            refine WP.retV K rfl own_b5_56 ?_ (by decide) (by decide)
            refine ⟨rfl, Kp2, _, Hs2, hS2, ?_, fun i V hV => ?_⟩
            · rintro s (q | rfl)
              · exact G.2.1 s q
              · exact hn
            · by_cases c : j = i
              · subst c
                rw [List.getElem?_set_self hjV] at hV
                cases hV; exact hnew
              · rw [List.getElem?_set_ne c] at hV
                have hLi := hL i V hV
                by_cases d : i < j
                · rw [show (fun s => S s ∨ (i < j ∧ s = n)) = (fun s => S s ∨ s = n) from funext fun s => propext (by simp [d])] at hLi
                  exact hLi
                · rw [show (fun s => S s ∨ (i < j ∧ s = n)) = S from funext fun s => propext (by simp [d])] at hLi
                  obtain ⟨T, hT⟩ := low_of c53
                  obtain ⟨s0, q1, q2⟩ := (hLj (64 * (n / 64 ^ j / 64) + T) (by have := hT.1; omega)).mp (by rw [word_bit hT.1]; exact hT.2.1)
                  exact lv_more hLi q1 (up_meet (j := j) (by rw [div_up, div_up, q2]; have := hT.1; omega) i (by omega))
  refine WP.iloadN K 1 own_b5_0 rfl rfl ?_
  refine WP.istoreN K 2 [.val (.ref o), .val (.int x), .val (.int x), .unset, .unset, .unset, .unset, .unset, .unset] own_b5_1 rfl rfl ?_
  refine WP.aloadN K 3 own_b5_2 rfl rfl rfl ?_
  refine WP.getfield K (host := "") 6 (Or.inl (hw _ (List.mem_of_getElem? (i := 17) rfl))) Via.refl Fl own_b5_3 rfl ?_
  refine WP.astoreN K 7 [.val (.ref o), .val (.int x), .val (.int x), .val (.ref lv), .unset, .unset, .unset, .unset, .unset] own_b5_6 rfl rfl rfl ?_
  refine WP.aloadN K 8 own_b5_7 rfl rfl rfl ?_
  refine WP.arraylength K z 9 R_lv.v (by rw [hz, List.length_map, hlen]) own_b5_8 rfl ?_
  refine WP.istore K 11 [.val (.ref o), .val (.int x), .val (.int x), .val (.ref lv), .val (.int z), .unset, .unset, .unset, .unset] own_b5_9 rfl rfl ?_
  refine WP.iconst K (0 : Int32) 12 own_b5_11 rfl rfl ?_
  refine WP.istore K 14 [.val (.ref o), .val (.int x), .val (.int x), .val (.ref lv), .val (.int z), .val (.int (0 : Int32)), .unset, .unset, .unset] own_b5_12 rfl rfl ?_
  exact loop Ws.length 0 _ Ws _ _ _ _ _ (Or.inl ⟨rfl, rfl, rfl⟩) (by omega) rfl (by simpa using hx) rfl (Keep.refl _ _) H0 G.1 (fun i W hW => by rw [show (fun s => S s ∨ (i < 0 ∧ s = n)) = S from funext fun s => propext (by simp)]; exact G.2.2 i W hW)
theorem own_b8_0 : decode prog_175_method_6_code 0 = .ok (.iconst 0, 1) := by decide +kernel
theorem own_b8_1 : decode prog_175_method_6_code 1 = .ok (.istore_n 1, 1) := by decide +kernel
theorem own_b8_2 : decode prog_175_method_6_code 2 = .ok (.aload_n 0, 1) := by decide +kernel
theorem own_b8_3 : decode prog_175_method_6_code 3 = .ok (.getfield 13, 3) := by decide +kernel
theorem own_b8_6 : decode prog_175_method_6_code 6 = .ok (.arraylength, 1) := by decide +kernel
theorem own_b8_7 : decode prog_175_method_6_code 7 = .ok (.iconst 1, 1) := by decide +kernel
theorem own_b8_8 : decode prog_175_method_6_code 8 = .ok (.isub, 1) := by decide +kernel
theorem own_b8_9 : decode prog_175_method_6_code 9 = .ok (.istore_n 2, 1) := by decide +kernel
theorem own_b8_10 : decode prog_175_method_6_code 10 = .ok (.iload_n 2, 1) := by decide +kernel
theorem own_b8_11 : decode prog_175_method_6_code 11 = .ok (.ifCond .lt 26, 3) := by decide +kernel
theorem own_b8_14 : decode prog_175_method_6_code 14 = .ok (.iload_n 1, 1) := by decide +kernel
theorem own_b8_15 : decode prog_175_method_6_code 15 = .ok (.bipush 64, 2) := by decide +kernel
theorem own_b8_17 : decode prog_175_method_6_code 17 = .ok (.imul, 1) := by decide +kernel
theorem own_b8_18 : decode prog_175_method_6_code 18 = .ok (.aload_n 0, 1) := by decide +kernel
theorem own_b8_19 : decode prog_175_method_6_code 19 = .ok (.getfield 13, 3) := by decide +kernel
theorem own_b8_22 : decode prog_175_method_6_code 22 = .ok (.iload_n 2, 1) := by decide +kernel
theorem own_b8_23 : decode prog_175_method_6_code 23 = .ok (.aaload, 1) := by decide +kernel
theorem own_b8_24 : decode prog_175_method_6_code 24 = .ok (.iload_n 1, 1) := by decide +kernel
theorem own_b8_25 : decode prog_175_method_6_code 25 = .ok (.laload, 1) := by decide +kernel
theorem own_b8_26 : decode prog_175_method_6_code 26 = .ok (.invokestatic 27, 3) := by decide +kernel
theorem own_b8_29 : decode prog_175_method_6_code 29 = .ok (.iadd, 1) := by decide +kernel
theorem own_b8_30 : decode prog_175_method_6_code 30 = .ok (.istore_n 1, 1) := by decide +kernel
theorem own_b8_31 : decode prog_175_method_6_code 31 = .ok (.iinc 2 (-1), 3) := by decide +kernel
theorem own_b8_34 : decode prog_175_method_6_code 34 = .ok (.goto (-24), 3) := by decide +kernel
theorem own_b8_37 : decode prog_175_method_6_code 37 = .ok (.iload_n 1, 1) := by decide +kernel
theorem own_b8_38 : decode prog_175_method_6_code 38 = .ok (.ireturn, 1) := by decide +kernel
theorem own_pf_b8 : plainFor (⟨"com/example/curtail/curtail/SlotSet", "first", "()I"⟩ : MethodName) = true := by first | exact plainFor_of_name (by first | (simp [plainName, overriddenIn, x]; done) | decide +kernel) | decide +kernel
theorem own_pd_2 : parseMethodDescriptor "(J)I" = some ⟨[.long], some .int⟩ := by decide +kernel
set_option maxRecDepth 65536 in
set_option maxHeartbeats 40000000 in
theorem own_first (l : Launch) (Z : State) (a0 : Array Value) (hw : ∀ d ∈ tables_1, d.before a0 Z = true) (n0 : Nat) (h : Heap) (o lv : Nat) (as : List Nat) (Ws : List (List Int64)) (cap : Nat) (S : Nat → Prop) (H : SS Z h n0 o lv as Ws) (G : Good cap S Ws) (ne : ∃ s, S s) :
    Con l Z (⟨"com/example/curtail/curtail/SlotSet", "first", "()I"⟩ : MethodName) prog_175_method_6_code 3 (some .int) ({ frames := 2, cells := 0, slots := 0, locals := 31 } : Room) n0 #[(.ref o)] h (R1 fun r h' => (∃ (z : Int32) (m : Nat), r = .int z ∧ z.toInt = (m : Nat) ∧ S m ∧ ∀ s, S s → m ≤ s) ∧ h = h') := by
  refine Con.of (ls := [.val (.ref o), .unset, .unset]) own_pf_b8 (fun m => by first | (simp [entryFrame, mkF, argsToLocals, Value.category]; done) | rfl) fun k K => ?_
  have k_m1 : ((-1) : Int32).toInt = -1 := rfl
  have k_0 : (0 : Int32).toInt = 0 := rfl
  have k_1 : (1 : Int32).toInt = 1 := rfl
  have k_64 : (64 : Int32).toInt = 64 := rfl
  have H0 := H
  obtain ⟨Ex, Fl, R_lv, hlen, -, -, -⟩ := H
  have hp := G.1.1
  have hl100 := G.1.2.2.2.2.2
  obtain ⟨z, hz⟩ : ∃ z : Int32, z.toInt = (Ws.length : Nat) := i32_of (by omega)
  have loop : ∀ (j m : Nat) (sl lvl : Int32), j ≤ Ws.length → Mn S j m → sl.toInt = (m : Nat) → lvl.toInt = (j : Int) - 1 → WP k h 0 0 10 [.val (.ref o), .val (.int sl), .val (.int lvl)] [] := by
    intro j
    induction j with
    | zero =>
      intro m sl lvl hj hm hsl hlvl
      refine WP.iloadN K 11 own_b8_10 rfl rfl ?_
      refine WP.if_lt K 37 14 own_b8_11 (by decide) rfl (fun c11 => ?_) (fun c11 => ?_)
      · skip
        refine WP.iloadN K 38 own_b8_37 rfl rfl ?_
        refine WP.iret K rfl (Or.inl rfl) rfl own_b8_38 ?_ (by decide) (by decide)
        obtain ⟨⟨s, q1, q2⟩, q3⟩ := hm
        rw [Nat.pow_zero, Nat.div_one] at q2
        subst q2
        exact ⟨_, rfl, ⟨sl, s, rfl, hsl, q1, fun t ht => q3 t ⟨t, ht, by simp⟩⟩, rfl⟩
      · skip
        exfalso; omega
    | succ j ih =>
      intro m sl lvl hj hm hsl hlvl
      refine WP.iloadN K 11 own_b8_10 rfl rfl ?_
      refine WP.if_lt K 37 14 own_b8_11 (by decide) rfl (fun c11 => ?_) (fun c11 => ?_)
      · skip
        exfalso; omega
      · skip
        obtain ⟨W, hW⟩ : ∃ W, Ws[j]? = some W := ⟨_, List.getElem?_eq_getElem (by omega)⟩
        obtain ⟨a, ha, hr, A_a, na⟩ := H0.at hW
        have hLj := G.2.2 j W hW
        obtain ⟨hmb, hnz⟩ := mn_word hLj (fun _ q => q) hm (fun s hs => szs_bound G.1 (G.2.1 s hs) j W hW)
        have hg := ss_get (W := W) (i := m) hmb
        obtain ⟨T, hL⟩ := low_of hnz
        have hWl := G.1.2.2.2.2.1 j W hW
        refine WP.iloadN K 15 own_b8_14 rfl rfl ?_
        refine WP.bipush K (64 : Int32) 17 own_b8_15 rfl rfl ?_
        refine WP.imul K 18 own_b8_17 rfl ?_
        refine WP.aloadN K 19 own_b8_18 rfl rfl rfl ?_
        refine WP.getfield K (host := "") 22 (Or.inl (hw _ (List.mem_of_getElem? (i := 17) rfl))) Via.refl Fl own_b8_19 rfl ?_
        refine WP.iloadN K 23 own_b8_22 rfl rfl ?_
        refine WP.aaload K 24 j R_lv.v rfl (by omega) hr own_b8_23 rfl ?_
        refine WP.iloadN K 25 own_b8_24 rfl rfl ?_
        refine WP.laload K 26 m A_a hsl hg own_b8_25 rfl ?_
        refine WP.callS K 29 0 0 1 [(.long (W.getD m 0))] [(.int (sl * (64 : Int32)))] (hw _ (List.mem_of_getElem? (i := 45) rfl)) (hw _ (List.mem_of_getElem? (i := 46) rfl)) (hw _ (List.mem_of_getElem? (i := 47) rfl)) (hw _ (List.mem_of_getElem? (i := 48) rfl)) (by decide) own_pd_2 rfl rfl rfl (by decide) (by decide) (Nat.le_of_eq rfl) rfl own_b8_26 rfl rfl rfl (by decide) (by decide) (own_ntzL l Z a0 hw n0 h (W.getD m 0) T hL) (r1_next fun r3 h1 q2 => ?_)
        obtain ⟨⟨zt, rfl, hzt⟩, rfl⟩ := q2
        refine WP.iadd K 30 own_b8_29 rfl ?_
        refine WP.istoreN K 31 [.val (.ref o), .val (.int ((sl * (64 : Int32)) + zt)), .val (.int lvl)] own_b8_30 rfl rfl ?_
        refine WP.iinc K (-1 : Int32) 34 [.val (.ref o), .val (.int ((sl * (64 : Int32)) + zt)), .val (.int (lvl + (-1 : Int32)))] own_b8_31 rfl rfl rfl rfl ?_
        refine WP.goto K 10 own_b8_34 (by decide) ?_
        have hst := mn_step hLj (fun _ q => q) (fun s hs _ => hs) hm hmb hL.1 hL.2.1 hL.2.2
        exact ih _ _ _ (by omega) hst.1 (ss_mul hsl hzt (by omega) hL.1) (by rw [i32_add (by omega) (by omega)]; omega)
  refine WP.iconst K (0 : Int32) 1 own_b8_0 rfl rfl ?_
  refine WP.istoreN K 2 [.val (.ref o), .val (.int (0 : Int32)), .unset] own_b8_1 rfl rfl ?_
  refine WP.aloadN K 3 own_b8_2 rfl rfl rfl ?_
  refine WP.getfield K (host := "") 6 (Or.inl (hw _ (List.mem_of_getElem? (i := 17) rfl))) Via.refl Fl own_b8_3 rfl ?_
  refine WP.arraylength K z 7 R_lv.v (by rw [hz, List.length_map, hlen]) own_b8_6 rfl ?_
  refine WP.iconst K (1 : Int32) 8 own_b8_7 rfl rfl ?_
  refine WP.isub K 9 own_b8_8 rfl ?_
  refine WP.istoreN K 10 [.val (.ref o), .val (.int (0 : Int32)), .val (.int (z - (1 : Int32)))] own_b8_9 rfl rfl ?_
  obtain ⟨s0, h0⟩ := ne
  obtain ⟨W, hW⟩ : ∃ W, Ws[Ws.length - 1]? = some W := ⟨_, List.getElem?_eq_getElem (by omega)⟩
  have hw1 := G.1.2.2.2.1 W hW
  have htop : ∀ s, S s → s / 64 ^ Ws.length = 0 := fun s hs => by
    have hb := szs_bound G.1 (G.2.1 s hs) _ W hW
    have e := div_up s (Ws.length - 1)
    rw [show Ws.length - 1 + 1 = Ws.length by omega] at e
    rw [e]; exact Nat.div_eq_of_lt (by omega)
  exact loop Ws.length 0 _ _ (Nat.le_refl _) ⟨⟨s0, h0, htop s0 h0⟩, fun i _ => Nat.zero_le i⟩ rfl (by rw [i32_sub (by omega) (by omega)]; omega)
theorem own_b11_0 : decode prog_175_method_7_code 0 = .ok (.iload_n 1, 1) := by decide +kernel
theorem own_b11_1 : decode prog_175_method_7_code 1 = .ok (.istore_n 2, 1) := by decide +kernel
theorem own_b11_2 : decode prog_175_method_7_code 2 = .ok (.iconst 0, 1) := by decide +kernel
theorem own_b11_3 : decode prog_175_method_7_code 3 = .ok (.istore_n 3, 1) := by decide +kernel
theorem own_b11_4 : decode prog_175_method_7_code 4 = .ok (.iload_n 3, 1) := by decide +kernel
theorem own_b11_5 : decode prog_175_method_7_code 5 = .ok (.aload_n 0, 1) := by decide +kernel
theorem own_b11_6 : decode prog_175_method_7_code 6 = .ok (.getfield 13, 3) := by decide +kernel
theorem own_b11_9 : decode prog_175_method_7_code 9 = .ok (.arraylength, 1) := by decide +kernel
theorem own_b11_10 : decode prog_175_method_7_code 10 = .ok (.if_icmp .ge 106, 3) := by decide +kernel
theorem own_b11_13 : decode prog_175_method_7_code 13 = .ok (.iload_n 2, 1) := by decide +kernel
theorem own_b11_14 : decode prog_175_method_7_code 14 = .ok (.bipush 64, 2) := by decide +kernel
theorem own_b11_16 : decode prog_175_method_7_code 16 = .ok (.idiv, 1) := by decide +kernel
theorem own_b11_17 : decode prog_175_method_7_code 17 = .ok (.istore 4, 2) := by decide +kernel
theorem own_b11_19 : decode prog_175_method_7_code 19 = .ok (.iload 4, 2) := by decide +kernel
theorem own_b11_21 : decode prog_175_method_7_code 21 = .ok (.aload_n 0, 1) := by decide +kernel
theorem own_b11_22 : decode prog_175_method_7_code 22 = .ok (.getfield 13, 3) := by decide +kernel
theorem own_b11_25 : decode prog_175_method_7_code 25 = .ok (.iload_n 3, 1) := by decide +kernel
theorem own_b11_26 : decode prog_175_method_7_code 26 = .ok (.aaload, 1) := by decide +kernel
theorem own_b11_27 : decode prog_175_method_7_code 27 = .ok (.arraylength, 1) := by decide +kernel
theorem own_b11_28 : decode prog_175_method_7_code 28 = .ok (.if_icmp .lt 5, 3) := by decide +kernel
theorem own_b11_31 : decode prog_175_method_7_code 31 = .ok (.iconst (-1), 1) := by decide +kernel
theorem own_b11_32 : decode prog_175_method_7_code 32 = .ok (.ireturn, 1) := by decide +kernel
theorem own_b11_33 : decode prog_175_method_7_code 33 = .ok (.aload_n 0, 1) := by decide +kernel
theorem own_b11_34 : decode prog_175_method_7_code 34 = .ok (.getfield 13, 3) := by decide +kernel
theorem own_b11_37 : decode prog_175_method_7_code 37 = .ok (.iload_n 3, 1) := by decide +kernel
theorem own_b11_38 : decode prog_175_method_7_code 38 = .ok (.aaload, 1) := by decide +kernel
theorem own_b11_39 : decode prog_175_method_7_code 39 = .ok (.iload 4, 2) := by decide +kernel
theorem own_b11_41 : decode prog_175_method_7_code 41 = .ok (.laload, 1) := by decide +kernel
theorem own_b11_42 : decode prog_175_method_7_code 42 = .ok (.ldc2_w 25, 3) := by decide +kernel
theorem own_b11_45 : decode prog_175_method_7_code 45 = .ok (.iload_n 2, 1) := by decide +kernel
theorem own_b11_46 : decode prog_175_method_7_code 46 = .ok (.lshl, 1) := by decide +kernel
theorem own_b11_47 : decode prog_175_method_7_code 47 = .ok (.land, 1) := by decide +kernel
theorem own_b11_48 : decode prog_175_method_7_code 48 = .ok (.lstore 5, 2) := by decide +kernel
theorem own_b11_50 : decode prog_175_method_7_code 50 = .ok (.lload 5, 2) := by decide +kernel
theorem own_b11_52 : decode prog_175_method_7_code 52 = .ok (.lconst 0, 1) := by decide +kernel
theorem own_b11_53 : decode prog_175_method_7_code 53 = .ok (.lcmp, 1) := by decide +kernel
theorem own_b11_54 : decode prog_175_method_7_code 54 = .ok (.ifCond .eq 51, 3) := by decide +kernel
theorem own_b11_57 : decode prog_175_method_7_code 57 = .ok (.iload 4, 2) := by decide +kernel
theorem own_b11_59 : decode prog_175_method_7_code 59 = .ok (.bipush 64, 2) := by decide +kernel
theorem own_b11_61 : decode prog_175_method_7_code 61 = .ok (.imul, 1) := by decide +kernel
theorem own_b11_62 : decode prog_175_method_7_code 62 = .ok (.lload 5, 2) := by decide +kernel
theorem own_b11_64 : decode prog_175_method_7_code 64 = .ok (.invokestatic 27, 3) := by decide +kernel
theorem own_b11_67 : decode prog_175_method_7_code 67 = .ok (.iadd, 1) := by decide +kernel
theorem own_b11_68 : decode prog_175_method_7_code 68 = .ok (.istore_n 2, 1) := by decide +kernel
theorem own_b11_69 : decode prog_175_method_7_code 69 = .ok (.iload_n 3, 1) := by decide +kernel
theorem own_b11_70 : decode prog_175_method_7_code 70 = .ok (.iconst 1, 1) := by decide +kernel
theorem own_b11_71 : decode prog_175_method_7_code 71 = .ok (.isub, 1) := by decide +kernel
theorem own_b11_72 : decode prog_175_method_7_code 72 = .ok (.istore 7, 2) := by decide +kernel
theorem own_b11_74 : decode prog_175_method_7_code 74 = .ok (.iload 7, 2) := by decide +kernel
theorem own_b11_76 : decode prog_175_method_7_code 76 = .ok (.ifCond .lt 27, 3) := by decide +kernel
theorem own_b11_79 : decode prog_175_method_7_code 79 = .ok (.iload_n 2, 1) := by decide +kernel
theorem own_b11_80 : decode prog_175_method_7_code 80 = .ok (.bipush 64, 2) := by decide +kernel
theorem own_b11_82 : decode prog_175_method_7_code 82 = .ok (.imul, 1) := by decide +kernel
theorem own_b11_83 : decode prog_175_method_7_code 83 = .ok (.aload_n 0, 1) := by decide +kernel
theorem own_b11_84 : decode prog_175_method_7_code 84 = .ok (.getfield 13, 3) := by decide +kernel
theorem own_b11_87 : decode prog_175_method_7_code 87 = .ok (.iload 7, 2) := by decide +kernel
theorem own_b11_89 : decode prog_175_method_7_code 89 = .ok (.aaload, 1) := by decide +kernel
theorem own_b11_90 : decode prog_175_method_7_code 90 = .ok (.iload_n 2, 1) := by decide +kernel
theorem own_b11_91 : decode prog_175_method_7_code 91 = .ok (.laload, 1) := by decide +kernel
theorem own_b11_92 : decode prog_175_method_7_code 92 = .ok (.invokestatic 27, 3) := by decide +kernel
theorem own_b11_95 : decode prog_175_method_7_code 95 = .ok (.iadd, 1) := by decide +kernel
theorem own_b11_96 : decode prog_175_method_7_code 96 = .ok (.istore_n 2, 1) := by decide +kernel
theorem own_b11_97 : decode prog_175_method_7_code 97 = .ok (.iinc 7 (-1), 3) := by decide +kernel
theorem own_b11_100 : decode prog_175_method_7_code 100 = .ok (.goto (-26), 3) := by decide +kernel
theorem own_b11_103 : decode prog_175_method_7_code 103 = .ok (.iload_n 2, 1) := by decide +kernel
theorem own_b11_104 : decode prog_175_method_7_code 104 = .ok (.ireturn, 1) := by decide +kernel
theorem own_b11_105 : decode prog_175_method_7_code 105 = .ok (.iload 4, 2) := by decide +kernel
theorem own_b11_107 : decode prog_175_method_7_code 107 = .ok (.iconst 1, 1) := by decide +kernel
theorem own_b11_108 : decode prog_175_method_7_code 108 = .ok (.iadd, 1) := by decide +kernel
theorem own_b11_109 : decode prog_175_method_7_code 109 = .ok (.istore_n 2, 1) := by decide +kernel
theorem own_b11_110 : decode prog_175_method_7_code 110 = .ok (.iinc 3 1, 3) := by decide +kernel
theorem own_b11_113 : decode prog_175_method_7_code 113 = .ok (.goto (-109), 3) := by decide +kernel
theorem own_b11_116 : decode prog_175_method_7_code 116 = .ok (.iconst (-1), 1) := by decide +kernel
theorem own_b11_117 : decode prog_175_method_7_code 117 = .ok (.ireturn, 1) := by decide +kernel
theorem own_pf_b11 : plainFor (⟨"com/example/curtail/curtail/SlotSet", "next", "(I)I"⟩ : MethodName) = true := by first | exact plainFor_of_name (by first | (simp [plainName, overriddenIn, x]; done) | decide +kernel) | decide +kernel
set_option maxRecDepth 65536 in
set_option maxHeartbeats 40000000 in
theorem own_next (l : Launch) (Z : State) (a0 : Array Value) (hw : ∀ d ∈ tables_1, d.before a0 Z = true) (n0 : Nat) (h : Heap) (o lv : Nat) (as : List Nat) (Ws : List (List Int64)) (cap : Nat) (S : Nat → Prop) (H : SS Z h n0 o lv as Ws) (G : Good cap S Ws) (x : Int32) (fr : Nat) (hx : x.toInt = (fr : Nat)) (hfr : fr ≤ cap) (hcap : cap < 1000000) :
    Con l Z (⟨"com/example/curtail/curtail/SlotSet", "next", "(I)I"⟩ : MethodName) prog_175_method_7_code 8 (some .int) ({ frames := 2, cells := 0, slots := 0, locals := 31 } : Room) n0 #[(.ref o), (.int x)] h (R1 fun r h' => ((∃ (z : Int32) (m : Nat), r = .int z ∧ z.toInt = (m : Nat) ∧ S m ∧ fr ≤ m ∧ ∀ s, S s → fr ≤ s → m ≤ s) ∨ (r = .int (-1) ∧ ∀ s, S s → ¬ fr ≤ s)) ∧ h = h') := by
  refine Con.of (ls := [.val (.ref o), .val (.int x), .unset, .unset, .unset, .unset, .unset, .unset]) own_pf_b11 (fun m => by first | (simp [entryFrame, mkF, argsToLocals, Value.category]; done) | rfl) fun k K => ?_
  have k_m1 : ((-1) : Int32).toInt = -1 := rfl
  have kL_m1 : (-1 : Int64).toInt = -1 := rfl
  have k_0 : (0 : Int32).toInt = 0 := rfl
  have kL_0 : (0 : Int64).toInt = 0 := rfl
  have k_1 : (1 : Int32).toInt = 1 := rfl
  have k_64 : (64 : Int32).toInt = 64 := rfl
  have H0 := H
  obtain ⟨Ex, Fl, R_lv, hlen, -, -, -⟩ := H
  have hp := G.1.1
  have hl100 := G.1.2.2.2.2.2
  obtain ⟨z, hz⟩ : ∃ z : Int32, z.toInt = (Ws.length : Nat) := i32_of (by omega)
  have down : ∀ (j m : Nat) (sl i3 w4 i7 : Int32) (v5 : Int64), j ≤ Ws.length → Mn (fun s => S s ∧ fr ≤ s) j m → (∀ s, S s → s / 64 ^ j = m → S s ∧ fr ≤ s) → sl.toInt = (m : Nat) → i7.toInt = (j : Int) - 1 → WP k h 0 0 74 [.val (.ref o), .val (.int x), .val (.int sl), .val (.int i3), .val (.int w4), .val (.long v5), .second, .val (.int i7)] [] := by
    intro j
    induction j with
    | zero =>
      intro m sl i3 w4 i7 v5 hj hm hblk hsl h7
      refine WP.iload K 76 own_b11_74 rfl rfl ?_
      refine WP.if_lt K 103 79 own_b11_76 (by decide) rfl (fun c76 => ?_) (fun c76 => ?_)
      · skip
        refine WP.iloadN K 104 own_b11_103 rfl rfl ?_
        refine WP.iret K rfl (Or.inl rfl) rfl own_b11_104 ?_ (by decide) (by decide)
        obtain ⟨⟨s, q1, q2⟩, q3⟩ := hm
        rw [Nat.pow_zero, Nat.div_one] at q2
        subst q2
        exact ⟨_, rfl, Or.inl ⟨sl, s, rfl, hsl, q1.1, q1.2, fun t ht hf => q3 t ⟨t, ⟨ht, hf⟩, by simp⟩⟩, rfl⟩
      · skip
        exfalso; omega
    | succ j ih =>
      intro m sl i3 w4 i7 v5 hj hm hblk hsl h7
      refine WP.iload K 76 own_b11_74 rfl rfl ?_
      refine WP.if_lt K 103 79 own_b11_76 (by decide) rfl (fun c76 => ?_) (fun c76 => ?_)
      · skip
        exfalso; omega
      · skip
        obtain ⟨W, hW⟩ : ∃ W, Ws[j]? = some W := ⟨_, List.getElem?_eq_getElem (by omega)⟩
        obtain ⟨a, ha, hr, A_a, na⟩ := H0.at hW
        have hLj := G.2.2 j W hW
        obtain ⟨hmb, hnz⟩ := mn_word hLj (fun _ q => q.1) hm (fun s hs => szs_bound G.1 (G.2.1 s hs) j W hW)
        have hg := ss_get (W := W) (i := m) hmb
        obtain ⟨T, hL⟩ := low_of hnz
        have hWl := G.1.2.2.2.2.1 j W hW
        refine WP.iloadN K 80 own_b11_79 rfl rfl ?_
        refine WP.bipush K (64 : Int32) 82 own_b11_80 rfl rfl ?_
        refine WP.imul K 83 own_b11_82 rfl ?_
        refine WP.aloadN K 84 own_b11_83 rfl rfl rfl ?_
        refine WP.getfield K (host := "") 87 (Or.inl (hw _ (List.mem_of_getElem? (i := 17) rfl))) Via.refl Fl own_b11_84 rfl ?_
        refine WP.iload K 89 own_b11_87 rfl rfl ?_
        refine WP.aaload K 90 j R_lv.v rfl (by omega) hr own_b11_89 rfl ?_
        refine WP.iloadN K 91 own_b11_90 rfl rfl ?_
        refine WP.laload K 92 m A_a hsl hg own_b11_91 rfl ?_
        refine WP.callS K 95 0 0 1 [(.long (W.getD m 0))] [(.int (sl * (64 : Int32)))] (hw _ (List.mem_of_getElem? (i := 45) rfl)) (hw _ (List.mem_of_getElem? (i := 46) rfl)) (hw _ (List.mem_of_getElem? (i := 47) rfl)) (hw _ (List.mem_of_getElem? (i := 48) rfl)) (by decide) own_pd_2 rfl rfl rfl (by decide) (by decide) (Nat.le_of_eq rfl) rfl own_b11_92 rfl rfl rfl (by decide) (by decide) (own_ntzL l Z a0 hw n0 h (W.getD m 0) T hL) (r1_next fun r3 h1 q2 => ?_)
        obtain ⟨⟨zt, rfl, hzt⟩, rfl⟩ := q2
        refine WP.iadd K 96 own_b11_95 rfl ?_
        refine WP.istoreN K 97 [.val (.ref o), .val (.int x), .val (.int ((sl * (64 : Int32)) + zt)), .val (.int i3), .val (.int w4), .val (.long v5), .second, .val (.int i7)] own_b11_96 rfl rfl ?_
        refine WP.iinc K (-1 : Int32) 100 [.val (.ref o), .val (.int x), .val (.int ((sl * (64 : Int32)) + zt)), .val (.int i3), .val (.int w4), .val (.long v5), .second, .val (.int (i7 + (-1 : Int32)))] own_b11_97 rfl rfl rfl rfl ?_
        refine WP.goto K 74 own_b11_100 (by decide) ?_
        have hst := mn_step hLj (fun _ q => q.1) hblk hm hmb hL.1 hL.2.1 hL.2.2
        exact ih _ _ _ _ _ _ (by omega) hst.1 hst.2 (ss_mul hsl hzt (by omega) hL.1) (by rw [i32_add (by omega) (by omega)]; omega)
  have up : ∀ (m j sn : Nat) (sl i3 : Int32) (s4 s5 s6 : Slot), ((s4 = .unset ∧ s5 = .unset ∧ s6 = .unset) ∨ ∃ (u : Int32) (v : Int64), s4 = .val (.int u) ∧ s5 = .val (.long v) ∧ s6 = .second) → j + m = Ws.length → sl.toInt = (sn : Nat) → sn < 2000000 → i3.toInt = (j : Nat) → (0 < j → 0 < sn) → (∀ s, S s → (fr ≤ s ↔ sn ≤ s / 64 ^ j)) → WP k h 0 0 4 [.val (.ref o), .val (.int x), .val (.int sl), .val (.int i3), s4, s5, s6, .unset] [] := by
    intro m
    induction m with
    | zero =>
      intro j sn sl i3 s4 s5 s6 hsh hm hsl hsb hi3 hpos inv
      rcases hsh with ⟨rfl, rfl, rfl⟩ | ⟨u, v, rfl, rfl, rfl⟩
      · skip
        refine WP.iloadN K 5 own_b11_4 rfl rfl ?_
        refine WP.aloadN K 6 own_b11_5 rfl rfl rfl ?_
        refine WP.getfield K (host := "") 9 (Or.inl (hw _ (List.mem_of_getElem? (i := 17) rfl))) Via.refl Fl own_b11_6 rfl ?_
        refine WP.arraylength K z 10 R_lv.v (by rw [hz, List.length_map, hlen]) own_b11_9 rfl ?_
        refine WP.icmp_ge K 116 13 own_b11_10 (by decide) rfl (fun c10 => ?_) (fun c10 => ?_)
        · skip
          refine WP.iconst K ((-1) : Int32) 117 own_b11_116 rfl rfl ?_
          refine WP.iret K rfl (Or.inl rfl) rfl own_b11_117 ?_ (by decide) (by decide)
          refine ⟨_, rfl, Or.inr ⟨rfl, fun s hs q => ?_⟩, rfl⟩
          have q2 := (inv s hs).mp q
          obtain ⟨W, hW⟩ : ∃ W, Ws[Ws.length - 1]? = some W := ⟨_, List.getElem?_eq_getElem (by omega)⟩
          have hw1 := G.1.2.2.2.1 W hW
          have hb := szs_bound G.1 (G.2.1 s hs) _ W hW
          have e := div_up s (Ws.length - 1)
          rw [show Ws.length - 1 + 1 = j by omega] at e
          have := hpos (by omega)
          omega
        · skip
          exfalso; omega
      · skip
        refine WP.iloadN K 5 own_b11_4 rfl rfl ?_
        refine WP.aloadN K 6 own_b11_5 rfl rfl rfl ?_
        refine WP.getfield K (host := "") 9 (Or.inl (hw _ (List.mem_of_getElem? (i := 17) rfl))) Via.refl Fl own_b11_6 rfl ?_
        refine WP.arraylength K z 10 R_lv.v (by rw [hz, List.length_map, hlen]) own_b11_9 rfl ?_
        refine WP.icmp_ge K 116 13 own_b11_10 (by decide) rfl (fun c10 => ?_) (fun c10 => ?_)
        · skip
          refine WP.iconst K ((-1) : Int32) 117 own_b11_116 rfl rfl ?_
          refine WP.iret K rfl (Or.inl rfl) rfl own_b11_117 ?_ (by decide) (by decide)
          refine ⟨_, rfl, Or.inr ⟨rfl, fun s hs q => ?_⟩, rfl⟩
          have q2 := (inv s hs).mp q
          obtain ⟨W, hW⟩ : ∃ W, Ws[Ws.length - 1]? = some W := ⟨_, List.getElem?_eq_getElem (by omega)⟩
          have hw1 := G.1.2.2.2.1 W hW
          have hb := szs_bound G.1 (G.2.1 s hs) _ W hW
          have e := div_up s (Ws.length - 1)
          rw [show Ws.length - 1 + 1 = j by omega] at e
          have := hpos (by omega)
          omega
        · skip
          exfalso; omega
    | succ m ih =>
      intro j sn sl i3 s4 s5 s6 hsh hm hsl hsb hi3 hpos inv
      rcases hsh with ⟨rfl, rfl, rfl⟩ | ⟨u, v, rfl, rfl, rfl⟩
      · skip
        refine WP.iloadN K 5 own_b11_4 rfl rfl ?_
        refine WP.aloadN K 6 own_b11_5 rfl rfl rfl ?_
        refine WP.getfield K (host := "") 9 (Or.inl (hw _ (List.mem_of_getElem? (i := 17) rfl))) Via.refl Fl own_b11_6 rfl ?_
        refine WP.arraylength K z 10 R_lv.v (by rw [hz, List.length_map, hlen]) own_b11_9 rfl ?_
        refine WP.icmp_ge K 116 13 own_b11_10 (by decide) rfl (fun c10 => ?_) (fun c10 => ?_)
        · skip
          exfalso; omega
        · skip
          obtain ⟨W, hW⟩ : ∃ W, Ws[j]? = some W := ⟨_, List.getElem?_eq_getElem (by omega)⟩
          obtain ⟨a, ha, hr, A_a, na⟩ := H0.at hW
          have hLj := G.2.2 j W hW
          have hWl := G.1.2.2.2.2.1 j W hW
          have hq := ss_div hsl
          have hbd : ∀ s, S s → s / 64 ^ j < 64 * W.length := fun s hs => szs_bound G.1 (G.2.1 s hs) j W hW
          obtain ⟨zw, hzw⟩ : ∃ z : Int32, z.toInt = (W.length : Nat) := i32_of (by omega)
          refine WP.iloadN K 14 own_b11_13 rfl rfl ?_
          refine WP.bipush K (64 : Int32) 16 own_b11_14 rfl rfl ?_
          refine WP.idiv K 17 own_b11_16 rfl (by decide) ?_
          refine WP.istore K 19 [.val (.ref o), .val (.int x), .val (.int sl), .val (.int i3), .val (.int (sl / (64 : Int32))), .unset, .unset, .unset] own_b11_17 rfl rfl ?_
          refine WP.iload K 21 own_b11_19 rfl rfl ?_
          refine WP.aloadN K 22 own_b11_21 rfl rfl rfl ?_
          refine WP.getfield K (host := "") 25 (Or.inl (hw _ (List.mem_of_getElem? (i := 17) rfl))) Via.refl Fl own_b11_22 rfl ?_
          refine WP.iloadN K 26 own_b11_25 rfl rfl ?_
          refine WP.aaload K 27 j R_lv.v rfl hi3 hr own_b11_26 rfl ?_
          refine WP.arraylength K zw 28 A_a (by rw [hzw]; simp) own_b11_27 rfl ?_
          refine WP.icmp_lt K 33 31 own_b11_28 (by decide) rfl (fun c28 => ?_) (fun c28 => ?_)
          · skip
            have hsw : sn / 64 < W.length := by omega
            have hg := ss_get (W := W) (i := sn / 64) hsw
            refine WP.aloadN K 34 own_b11_33 rfl rfl rfl ?_
            refine WP.getfield K (host := "") 37 (Or.inl (hw _ (List.mem_of_getElem? (i := 17) rfl))) Via.refl Fl own_b11_34 rfl ?_
            refine WP.iloadN K 38 own_b11_37 rfl rfl ?_
            refine WP.aaload K 39 j R_lv.v rfl hi3 hr own_b11_38 rfl ?_
            refine WP.iload K 41 own_b11_39 rfl rfl ?_
            refine WP.laload K 42 (sn / 64) A_a hq hg own_b11_41 rfl ?_
            refine WP.ldc2J K (v := (-1 : Int64)) 45 (hw _ (List.mem_of_getElem? (i := 58) rfl)) own_b11_42 rfl ?_
            refine WP.iloadN K 46 own_b11_45 rfl rfl ?_
            refine WP.lshl K 47 own_b11_46 rfl ?_
            refine WP.land K 48 own_b11_47 rfl ?_
            refine WP.lstore K 50 [.val (.ref o), .val (.int x), .val (.int sl), .val (.int i3), .val (.int (sl / (64 : Int32))), .val (.long ((W.getD (sn / 64) 0) &&& ((-1 : Int64) <<< (sl.toInt64 &&& 63)))), .second, .unset] own_b11_48 rfl rfl ?_
            refine WP.lload K 52 own_b11_50 rfl rfl ?_
            refine WP.lconst K (0 : Int64) 53 own_b11_52 rfl rfl ?_
            refine WP.lcmp K 54 own_b11_53 rfl ?_
            refine WP.ifl_eq K 105 57 own_b11_54 (by decide) rfl (fun c54 => ?_) (fun c54 => ?_)
            · skip
              refine WP.iload K 107 own_b11_105 rfl rfl ?_
              refine WP.iconst K (1 : Int32) 108 own_b11_107 rfl rfl ?_
              refine WP.iadd K 109 own_b11_108 rfl ?_
              refine WP.istoreN K 110 [.val (.ref o), .val (.int x), .val (.int ((sl / (64 : Int32)) + (1 : Int32))), .val (.int i3), .val (.int (sl / (64 : Int32))), .val (.long ((W.getD (sn / 64) 0) &&& ((-1 : Int64) <<< (sl.toInt64 &&& 63)))), .second, .unset] own_b11_109 rfl rfl ?_
              refine WP.iinc K (1 : Int32) 113 [.val (.ref o), .val (.int x), .val (.int ((sl / (64 : Int32)) + (1 : Int32))), .val (.int (i3 + (1 : Int32))), .val (.int (sl / (64 : Int32))), .val (.long ((W.getD (sn / 64) 0) &&& ((-1 : Int64) <<< (sl.toInt64 &&& 63)))), .second, .unset] own_b11_110 rfl rfl rfl rfl ?_
              refine WP.goto K 4 own_b11_113 (by decide) ?_
              exact ih (j + 1) (sn / 64 + 1) _ _ _ _ _ (Or.inr ⟨_, _, rfl, rfl, rfl⟩) (by omega) (inc32 hq (by omega)) (by omega) (inc32 hi3 (by omega)) (fun _ => by omega) (nx_up hLj hsl hsw c54 hbd inv)
            · skip
              obtain ⟨T, hL⟩ := low_of c54
              have hhit := nx_hit hLj hsl hsw hL.1 hL.2.1 hL.2.2 hbd inv
              refine WP.iload K 59 own_b11_57 rfl rfl ?_
              refine WP.bipush K (64 : Int32) 61 own_b11_59 rfl rfl ?_
              refine WP.imul K 62 own_b11_61 rfl ?_
              refine WP.lload K 64 own_b11_62 rfl rfl ?_
              refine WP.callS K 67 0 0 1 [(.long ((W.getD (sn / 64) 0) &&& ((-1 : Int64) <<< (sl.toInt64 &&& 63))))] [(.int ((sl / (64 : Int32)) * (64 : Int32)))] (hw _ (List.mem_of_getElem? (i := 45) rfl)) (hw _ (List.mem_of_getElem? (i := 46) rfl)) (hw _ (List.mem_of_getElem? (i := 47) rfl)) (hw _ (List.mem_of_getElem? (i := 48) rfl)) (by decide) own_pd_2 rfl rfl rfl (by decide) (by decide) (Nat.le_of_eq rfl) rfl own_b11_64 rfl rfl rfl (by decide) (by decide) (own_ntzL l Z a0 hw n0 h ((W.getD (sn / 64) 0) &&& ((-1 : Int64) <<< (sl.toInt64 &&& 63))) T hL) (r1_next fun r6 h4 q5 => ?_)
              obtain ⟨⟨zt, rfl, hzt⟩, rfl⟩ := q5
              refine WP.iadd K 68 own_b11_67 rfl ?_
              refine WP.istoreN K 69 [.val (.ref o), .val (.int x), .val (.int (((sl / (64 : Int32)) * (64 : Int32)) + zt)), .val (.int i3), .val (.int (sl / (64 : Int32))), .val (.long ((W.getD (sn / 64) 0) &&& ((-1 : Int64) <<< (sl.toInt64 &&& 63)))), .second, .unset] own_b11_68 rfl rfl ?_
              refine WP.iloadN K 70 own_b11_69 rfl rfl ?_
              refine WP.iconst K (1 : Int32) 71 own_b11_70 rfl rfl ?_
              refine WP.isub K 72 own_b11_71 rfl ?_
              refine WP.istore K 74 [.val (.ref o), .val (.int x), .val (.int (((sl / (64 : Int32)) * (64 : Int32)) + zt)), .val (.int i3), .val (.int (sl / (64 : Int32))), .val (.long ((W.getD (sn / 64) 0) &&& ((-1 : Int64) <<< (sl.toInt64 &&& 63)))), .second, .val (.int (i3 - (1 : Int32)))] own_b11_72 rfl rfl ?_
              exact down j _ _ _ _ _ _ (by omega) hhit.1 hhit.2 (ss_mul hq hzt (by omega) hL.1) (by rw [i32_sub (by omega) (by omega)]; omega)
          · skip
            refine WP.iconst K ((-1) : Int32) 32 own_b11_31 rfl rfl ?_
            refine WP.iret K rfl (Or.inl rfl) rfl own_b11_32 ?_ (by decide) (by decide)
            refine ⟨_, rfl, Or.inr ⟨rfl, fun s hs q => ?_⟩, rfl⟩
            have q2 := (inv s hs).mp q
            have := hbd s hs
            omega
      · skip
        refine WP.iloadN K 5 own_b11_4 rfl rfl ?_
        refine WP.aloadN K 6 own_b11_5 rfl rfl rfl ?_
        refine WP.getfield K (host := "") 9 (Or.inl (hw _ (List.mem_of_getElem? (i := 17) rfl))) Via.refl Fl own_b11_6 rfl ?_
        refine WP.arraylength K z 10 R_lv.v (by rw [hz, List.length_map, hlen]) own_b11_9 rfl ?_
        refine WP.icmp_ge K 116 13 own_b11_10 (by decide) rfl (fun c10 => ?_) (fun c10 => ?_)
        · skip
          exfalso; omega
        · skip
          obtain ⟨W, hW⟩ : ∃ W, Ws[j]? = some W := ⟨_, List.getElem?_eq_getElem (by omega)⟩
          obtain ⟨a, ha, hr, A_a, na⟩ := H0.at hW
          have hLj := G.2.2 j W hW
          have hWl := G.1.2.2.2.2.1 j W hW
          have hq := ss_div hsl
          have hbd : ∀ s, S s → s / 64 ^ j < 64 * W.length := fun s hs => szs_bound G.1 (G.2.1 s hs) j W hW
          obtain ⟨zw, hzw⟩ : ∃ z : Int32, z.toInt = (W.length : Nat) := i32_of (by omega)
          refine WP.iloadN K 14 own_b11_13 rfl rfl ?_
          refine WP.bipush K (64 : Int32) 16 own_b11_14 rfl rfl ?_
          refine WP.idiv K 17 own_b11_16 rfl (by decide) ?_
          refine WP.istore K 19 [.val (.ref o), .val (.int x), .val (.int sl), .val (.int i3), .val (.int (sl / (64 : Int32))), .val (.long v), .second, .unset] own_b11_17 rfl rfl ?_
          refine WP.iload K 21 own_b11_19 rfl rfl ?_
          refine WP.aloadN K 22 own_b11_21 rfl rfl rfl ?_
          refine WP.getfield K (host := "") 25 (Or.inl (hw _ (List.mem_of_getElem? (i := 17) rfl))) Via.refl Fl own_b11_22 rfl ?_
          refine WP.iloadN K 26 own_b11_25 rfl rfl ?_
          refine WP.aaload K 27 j R_lv.v rfl hi3 hr own_b11_26 rfl ?_
          refine WP.arraylength K zw 28 A_a (by rw [hzw]; simp) own_b11_27 rfl ?_
          refine WP.icmp_lt K 33 31 own_b11_28 (by decide) rfl (fun c28 => ?_) (fun c28 => ?_)
          · skip
            have hsw : sn / 64 < W.length := by omega
            have hg := ss_get (W := W) (i := sn / 64) hsw
            refine WP.aloadN K 34 own_b11_33 rfl rfl rfl ?_
            refine WP.getfield K (host := "") 37 (Or.inl (hw _ (List.mem_of_getElem? (i := 17) rfl))) Via.refl Fl own_b11_34 rfl ?_
            refine WP.iloadN K 38 own_b11_37 rfl rfl ?_
            refine WP.aaload K 39 j R_lv.v rfl hi3 hr own_b11_38 rfl ?_
            refine WP.iload K 41 own_b11_39 rfl rfl ?_
            refine WP.laload K 42 (sn / 64) A_a hq hg own_b11_41 rfl ?_
            refine WP.ldc2J K (v := (-1 : Int64)) 45 (hw _ (List.mem_of_getElem? (i := 58) rfl)) own_b11_42 rfl ?_
            refine WP.iloadN K 46 own_b11_45 rfl rfl ?_
            refine WP.lshl K 47 own_b11_46 rfl ?_
            refine WP.land K 48 own_b11_47 rfl ?_
            refine WP.lstore K 50 [.val (.ref o), .val (.int x), .val (.int sl), .val (.int i3), .val (.int (sl / (64 : Int32))), .val (.long ((W.getD (sn / 64) 0) &&& ((-1 : Int64) <<< (sl.toInt64 &&& 63)))), .second, .unset] own_b11_48 rfl rfl ?_
            refine WP.lload K 52 own_b11_50 rfl rfl ?_
            refine WP.lconst K (0 : Int64) 53 own_b11_52 rfl rfl ?_
            refine WP.lcmp K 54 own_b11_53 rfl ?_
            refine WP.ifl_eq K 105 57 own_b11_54 (by decide) rfl (fun c54 => ?_) (fun c54 => ?_)
            · skip
              refine WP.iload K 107 own_b11_105 rfl rfl ?_
              refine WP.iconst K (1 : Int32) 108 own_b11_107 rfl rfl ?_
              refine WP.iadd K 109 own_b11_108 rfl ?_
              refine WP.istoreN K 110 [.val (.ref o), .val (.int x), .val (.int ((sl / (64 : Int32)) + (1 : Int32))), .val (.int i3), .val (.int (sl / (64 : Int32))), .val (.long ((W.getD (sn / 64) 0) &&& ((-1 : Int64) <<< (sl.toInt64 &&& 63)))), .second, .unset] own_b11_109 rfl rfl ?_
              refine WP.iinc K (1 : Int32) 113 [.val (.ref o), .val (.int x), .val (.int ((sl / (64 : Int32)) + (1 : Int32))), .val (.int (i3 + (1 : Int32))), .val (.int (sl / (64 : Int32))), .val (.long ((W.getD (sn / 64) 0) &&& ((-1 : Int64) <<< (sl.toInt64 &&& 63)))), .second, .unset] own_b11_110 rfl rfl rfl rfl ?_
              refine WP.goto K 4 own_b11_113 (by decide) ?_
              exact ih (j + 1) (sn / 64 + 1) _ _ _ _ _ (Or.inr ⟨_, _, rfl, rfl, rfl⟩) (by omega) (inc32 hq (by omega)) (by omega) (inc32 hi3 (by omega)) (fun _ => by omega) (nx_up hLj hsl hsw c54 hbd inv)
            · skip
              obtain ⟨T, hL⟩ := low_of c54
              have hhit := nx_hit hLj hsl hsw hL.1 hL.2.1 hL.2.2 hbd inv
              refine WP.iload K 59 own_b11_57 rfl rfl ?_
              refine WP.bipush K (64 : Int32) 61 own_b11_59 rfl rfl ?_
              refine WP.imul K 62 own_b11_61 rfl ?_
              refine WP.lload K 64 own_b11_62 rfl rfl ?_
              refine WP.callS K 67 0 0 1 [(.long ((W.getD (sn / 64) 0) &&& ((-1 : Int64) <<< (sl.toInt64 &&& 63))))] [(.int ((sl / (64 : Int32)) * (64 : Int32)))] (hw _ (List.mem_of_getElem? (i := 45) rfl)) (hw _ (List.mem_of_getElem? (i := 46) rfl)) (hw _ (List.mem_of_getElem? (i := 47) rfl)) (hw _ (List.mem_of_getElem? (i := 48) rfl)) (by decide) own_pd_2 rfl rfl rfl (by decide) (by decide) (Nat.le_of_eq rfl) rfl own_b11_64 rfl rfl rfl (by decide) (by decide) (own_ntzL l Z a0 hw n0 h ((W.getD (sn / 64) 0) &&& ((-1 : Int64) <<< (sl.toInt64 &&& 63))) T hL) (r1_next fun r9 h7 q8 => ?_)
              obtain ⟨⟨zt, rfl, hzt⟩, rfl⟩ := q8
              refine WP.iadd K 68 own_b11_67 rfl ?_
              refine WP.istoreN K 69 [.val (.ref o), .val (.int x), .val (.int (((sl / (64 : Int32)) * (64 : Int32)) + zt)), .val (.int i3), .val (.int (sl / (64 : Int32))), .val (.long ((W.getD (sn / 64) 0) &&& ((-1 : Int64) <<< (sl.toInt64 &&& 63)))), .second, .unset] own_b11_68 rfl rfl ?_
              refine WP.iloadN K 70 own_b11_69 rfl rfl ?_
              refine WP.iconst K (1 : Int32) 71 own_b11_70 rfl rfl ?_
              refine WP.isub K 72 own_b11_71 rfl ?_
              refine WP.istore K 74 [.val (.ref o), .val (.int x), .val (.int (((sl / (64 : Int32)) * (64 : Int32)) + zt)), .val (.int i3), .val (.int (sl / (64 : Int32))), .val (.long ((W.getD (sn / 64) 0) &&& ((-1 : Int64) <<< (sl.toInt64 &&& 63)))), .second, .val (.int (i3 - (1 : Int32)))] own_b11_72 rfl rfl ?_
              exact down j _ _ _ _ _ _ (by omega) hhit.1 hhit.2 (ss_mul hq hzt (by omega) hL.1) (by rw [i32_sub (by omega) (by omega)]; omega)
          · skip
            refine WP.iconst K ((-1) : Int32) 32 own_b11_31 rfl rfl ?_
            refine WP.iret K rfl (Or.inl rfl) rfl own_b11_32 ?_ (by decide) (by decide)
            refine ⟨_, rfl, Or.inr ⟨rfl, fun s hs q => ?_⟩, rfl⟩
            have q2 := (inv s hs).mp q
            have := hbd s hs
            omega
  refine WP.iloadN K 1 own_b11_0 rfl rfl ?_
  refine WP.istoreN K 2 [.val (.ref o), .val (.int x), .val (.int x), .unset, .unset, .unset, .unset, .unset] own_b11_1 rfl rfl ?_
  refine WP.iconst K (0 : Int32) 3 own_b11_2 rfl rfl ?_
  refine WP.istoreN K 4 [.val (.ref o), .val (.int x), .val (.int x), .val (.int (0 : Int32)), .unset, .unset, .unset, .unset] own_b11_3 rfl rfl ?_
  exact up Ws.length 0 fr _ _ _ _ _ (Or.inl ⟨rfl, rfl, rfl⟩) (by omega) hx (by omega) rfl (fun q => absurd q (by omega)) (fun s _ => by simp)
theorem own_pf_law : plainFor x = true := by first | exact plainFor_of_name (by first | (simp [plainName, overriddenIn, x]; done) | decide +kernel) | decide +kernel
theorem own_pd_3 : parseMethodDescriptor "(I)V" = some ⟨[.int], none⟩ := by decide +kernel
theorem own_pd_4 : parseMethodDescriptor "()Z" = some ⟨[], some .boolean⟩ := by decide +kernel
theorem own_pd_5 : parseMethodDescriptor "(I)Z" = some ⟨[.int], some .boolean⟩ := by decide +kernel
theorem own_pd_6 : parseMethodDescriptor "()I" = some ⟨[], some .int⟩ := by decide +kernel
set_option maxRecDepth 65536 in
set_option maxHeartbeats 40000000 in
theorem own_law (l : Launch) (Z : State) (a0 : Array Value) (hw : ∀ d ∈ tables_1, d.before a0 Z = true) (n0 : Nat) (h : Heap) (pc_ px py pm pq pf : Int32) (Z0 : n0 ≤ h.size) :
    Con l Z x code maxLocals ret room_1 n0 #[(.int pc_), (.int px), (.int py), (.int pm), (.int pq), (.int pf)] h (R1 fun r h' => r = .int 1) := by
  refine Con.of (ls := [.val (.int pc_), .val (.int px), .val (.int py), .val (.int pm), .val (.int pq), .val (.int pf), .unset, .unset, .unset, .unset, .unset, .unset, .unset, .unset, .unset]) own_pf_law (fun m => by first | (simp [entryFrame, mkF, argsToLocals, Value.category, maxLocals]; done) | rfl) fun k K => ?_
  have k_m1 : ((-1) : Int32).toInt = -1 := rfl
  have k_0 : (0 : Int32).toInt = 0 := rfl
  have k_1 : (1 : Int32).toInt = 1 := rfl
  have k_16383 : (16383 : Int32).toInt = 16383 := rfl
  have k_2 : (2 : Int32).toInt = 2 := rfl
  have k_2147483647 : (2147483647 : Int32).toInt = 2147483647 := rfl
  have k_63 : (63 : Int32).toInt = 63 := rfl
  refine WP.iconst K (1 : Int32) 1 at_0 rfl rfl ?_
  refine WP.iloadN K 2 at_1 rfl rfl ?_
  refine WP.sipush K (16383 : Int32) 5 at_2 rfl rfl ?_
  refine WP.iand K 6 at_5 rfl ?_
  refine WP.iadd K 7 at_6 rfl ?_
  refine WP.istore K 9 [.val (.int pc_), .val (.int px), .val (.int py), .val (.int pm), .val (.int pq), .val (.int pf), .val (.int ((1 : Int32) + (pc_ &&& (16383 : Int32)))), .unset, .unset, .unset, .unset, .unset, .unset, .unset, .unset] at_7 rfl rfl ?_
  have a1 := c_and pc_ (16383 : Int32) (by decide)
  have e0 : ((1 : Int32) + (pc_ &&& (16383 : Int32))).toInt = 1 + (pc_ &&& (16383 : Int32)).toInt := by rw [i32_add (by omega) (by omega)]; omega
  generalize ((1 : Int32) + (pc_ &&& (16383 : Int32))) = cp at e0 ⊢
  obtain ⟨cap, hcp⟩ : ∃ n : Nat, cp.toInt = (n : Nat) := ⟨cp.toInt.toNat, by omega⟩
  have hc1 : 1 ≤ cap ∧ cap ≤ 16384 := by omega
  have hcp1 : (cp + (1 : Int32)).toInt = ((cap + 1 : Nat) : Int) := inc32 hcp (by omega)
  refine WP.iloadN K 10 at_9 rfl rfl ?_
  refine WP.ldcI K (v := (2147483647 : Int32)) 12 (hw _ (List.mem_of_getElem? (i := 0) rfl)) at_10 rfl ?_
  refine WP.iand K 13 at_12 rfl ?_
  refine WP.iload K 15 at_13 rfl rfl ?_
  refine WP.irem K 16 at_15 rfl (own_nz hcp (by omega)) ?_
  refine WP.istore K 18 [.val (.int pc_), .val (.int px), .val (.int py), .val (.int pm), .val (.int pq), .val (.int pf), .val (.int cp), .val (.int ((px &&& (2147483647 : Int32)) % cp)), .unset, .unset, .unset, .unset, .unset, .unset, .unset] at_16 rfl rfl ?_
  obtain ⟨na, hav, hna⟩ := own_rem (x := px) hcp (by omega)
  generalize ((px &&& (2147483647 : Int32)) % cp) = av at hav ⊢
  have J58 : ∀ (bv : Int32) (nb : Nat), bv.toInt = (nb : Nat) → nb < cap → WP k h 0 0 58 [.val (.int pc_), .val (.int px), .val (.int py), .val (.int pm), .val (.int pq), .val (.int pf), .val (.int cp), .val (.int av), .val (.int bv), .unset, .unset, .unset, .unset, .unset, .unset] [] := by
    intro bv nb hbv hnb
    refine WP.iload K 60 at_58 rfl rfl ?_
    refine WP.ldcI K (v := (2147483647 : Int32)) 62 (hw _ (List.mem_of_getElem? (i := 0) rfl)) at_60 rfl ?_
    refine WP.iand K 63 at_62 rfl ?_
    refine WP.iload K 65 at_63 rfl rfl ?_
    refine WP.irem K 66 at_65 rfl (own_nz hcp (by omega)) ?_
    refine WP.istore K 68 [.val (.int pc_), .val (.int px), .val (.int py), .val (.int pm), .val (.int pq), .val (.int pf), .val (.int cp), .val (.int av), .val (.int bv), .val (.int ((pq &&& (2147483647 : Int32)) % cp)), .unset, .unset, .unset, .unset, .unset] at_66 rfl rfl ?_
    obtain ⟨np, hpv, hnp⟩ := own_rem (x := pq) hcp (by omega)
    generalize ((pq &&& (2147483647 : Int32)) % cp) = pv at hpv ⊢
    refine WP.iload K 70 at_68 rfl rfl ?_
    refine WP.ldcI K (v := (2147483647 : Int32)) 72 (hw _ (List.mem_of_getElem? (i := 0) rfl)) at_70 rfl ?_
    refine WP.iand K 73 at_72 rfl ?_
    refine WP.iload K 75 at_73 rfl rfl ?_
    refine WP.iconst K (1 : Int32) 76 at_75 rfl rfl ?_
    refine WP.iadd K 77 at_76 rfl ?_
    refine WP.irem K 78 at_77 rfl (own_nz hcp1 (by omega)) ?_
    refine WP.istore K 80 [.val (.int pc_), .val (.int px), .val (.int py), .val (.int pm), .val (.int pq), .val (.int pf), .val (.int cp), .val (.int av), .val (.int bv), .val (.int pv), .val (.int ((pf &&& (2147483647 : Int32)) % (cp + (1 : Int32)))), .unset, .unset, .unset, .unset] at_78 rfl rfl ?_
    obtain ⟨nf, hfv, hnf⟩ := own_rem (x := pf) hcp1 (by omega)
    generalize ((pf &&& (2147483647 : Int32)) % (cp + (1 : Int32))) = fv at hfv ⊢
    refine WP.new K 83 1 1 (hw _ (List.mem_of_getElem? (i := 5) rfl)) (hw _ (List.mem_of_getElem? (i := 6) rfl)) (hw _ (List.mem_of_getElem? (i := 7) rfl)) at_80 rfl rfl rfl (by decide) (by decide) (fun h1 so z_so E2 X_so D3 => ?_)
    have n0_so : @LE.le Nat _ n0 so := z_so ▸ Z0
    have Z0 : n0 ≤ (h1).size := Nat.le_trans Z0 E2.1
    have F_levels_so : Fld Z h1 so "com/example/curtail/curtail/SlotSet" "levels" "[[J" .null := D3 (Or.inr (hw _ (List.mem_of_getElem? (i := 18) rfl))) (ty := (.array (.array .long))) (by decide)
    refine WP.dup K 84 at_83 rfl rfl ?_
    refine WP.iload K 86 at_84 rfl rfl ?_
    refine WP.callI K (a := so) 89 5 301 1 [(.int cp)] [(.ref so)] (hw _ (List.mem_of_getElem? (i := 8) rfl)) (hw _ (List.mem_of_getElem? (i := 9) rfl)) (hw _ (List.mem_of_getElem? (i := 7) rfl)) (hw _ (List.mem_of_getElem? (i := 10) rfl)) rfl (by decide) own_pd_3 rfl rfl rfl (by decide) (by decide) (Nat.le_of_eq rfl) rfl at_86 rfl rfl rfl (by decide) (by decide) (own_ctor l Z a0 hw n0 h1 so cp cap hcp (by omega) (by omega) Z0 X_so _ F_levels_so n0_so) (r0_next fun h4 q5 => ?_)
    obtain ⟨Kc, lv, as, Ws, n0_lv, s_lv, H, G⟩ := q5
    have Z0 : n0 ≤ (h4).size := Nat.le_trans Z0 Kc.1
    have X_so := X_so.keep Kc
    refine WP.astore K 91 [.val (.int pc_), .val (.int px), .val (.int py), .val (.int pm), .val (.int pq), .val (.int pf), .val (.int cp), .val (.int av), .val (.int bv), .val (.int pv), .val (.int fv), .val (.ref so), .unset, .unset, .unset] at_89 rfl rfl rfl ?_
    refine WP.aload K 93 at_91 rfl rfl rfl ?_
    refine WP.iload K 95 at_93 rfl rfl ?_
    refine WP.callV K (a := so) (C := "com/example/curtail/curtail/SlotSet") 98 5 301 0 [(.int av)] [] (hw _ (List.mem_of_getElem? (i := 24) rfl)) (hw _ (List.mem_of_getElem? (i := 25) rfl)) rfl (hw _ (List.mem_of_getElem? (i := 27) rfl)) (hw _ (List.mem_of_getElem? (i := 26) rfl)) (hw _ (List.mem_of_getElem? (i := 7) rfl)) (hw _ (List.mem_of_getElem? (i := 28) rfl)) (by decide) own_pd_3 rfl rfl rfl (by decide) (by decide) (Nat.le_of_eq rfl) rfl at_95 rfl rfl rfl (by decide) (by decide) H.1 (own_add l Z a0 hw n0 h4 so lv as Ws cap _ H G av na hav hna) (r0_next fun h8 q9 => ?_)
    obtain ⟨Ku7, Ws7, H7, G7⟩ := q9
    have Z0 : n0 ≤ h8.size := Nat.le_trans Z0 Ku7.1
    refine WP.aload K 100 at_98 rfl rfl rfl ?_
    refine WP.iload K 102 at_100 rfl rfl ?_
    refine WP.callV K (a := so) (C := "com/example/curtail/curtail/SlotSet") 105 5 301 0 [(.int bv)] [] (hw _ (List.mem_of_getElem? (i := 24) rfl)) (hw _ (List.mem_of_getElem? (i := 25) rfl)) rfl (hw _ (List.mem_of_getElem? (i := 27) rfl)) (hw _ (List.mem_of_getElem? (i := 26) rfl)) (hw _ (List.mem_of_getElem? (i := 7) rfl)) (hw _ (List.mem_of_getElem? (i := 28) rfl)) (by decide) own_pd_3 rfl rfl rfl (by decide) (by decide) (Nat.le_of_eq rfl) rfl at_102 rfl rfl rfl (by decide) (by decide) H7.1 (own_add l Z a0 hw n0 h8 so lv as Ws7 cap _ H7 G7 bv nb hbv hnb) (r0_next fun h12 q13 => ?_)
    obtain ⟨Ku11, Ws11, H11, G11⟩ := q13
    have Z0 : n0 ≤ h12.size := Nat.le_trans Z0 Ku11.1
    have J118 : ∀ (hh : Heap) (Vs : List (List Int64)), SS Z hh n0 so lv as Vs → Good cap (fun s => s = na ∨ s = nb) Vs → n0 ≤ hh.size → WP k hh 5 301 118 [.val (.int pc_), .val (.int px), .val (.int py), .val (.int pm), .val (.int pq), .val (.int pf), .val (.int cp), .val (.int av), .val (.int bv), .val (.int pv), .val (.int fv), .val (.ref so), .unset, .unset, .unset] [] := by
      intro hh Vs H G Z0
      refine WP.iload K 120 at_118 rfl rfl ?_
      refine WP.iload K 122 at_120 rfl rfl ?_
      refine WP.callS K 125 5 301 0 [(.int av), (.int bv)] [] (hw _ (List.mem_of_getElem? (i := 1) rfl)) (hw _ (List.mem_of_getElem? (i := 2) rfl)) (hw _ (List.mem_of_getElem? (i := 3) rfl)) (hw _ (List.mem_of_getElem? (i := 4) rfl)) (by decide) own_pd_0 rfl rfl rfl (by decide) (by decide) (Nat.le_of_eq rfl) rfl at_122 rfl rfl rfl (by decide) (by decide) (own_min l Z a0 hw n0 hh av bv ) (r1_next fun r17 h15 q16 => ?_)
      obtain ⟨rfl, rfl⟩ := q16
      refine WP.istore K 127 [.val (.int pc_), .val (.int px), .val (.int py), .val (.int pm), .val (.int pq), .val (.int pf), .val (.int cp), .val (.int av), .val (.int bv), .val (.int pv), .val (.int fv), .val (.ref so), .val (.int (min32 av bv)), .unset, .unset] at_125 rfl rfl ?_
      refine WP.iload K 129 at_127 rfl rfl ?_
      refine WP.iload K 131 at_129 rfl rfl ?_
      refine WP.callS K 134 5 301 0 [(.int av), (.int bv)] [] (hw _ (List.mem_of_getElem? (i := 29) rfl)) (hw _ (List.mem_of_getElem? (i := 20) rfl)) (hw _ (List.mem_of_getElem? (i := 3) rfl)) (hw _ (List.mem_of_getElem? (i := 21) rfl)) (by decide) own_pd_0 rfl rfl rfl (by decide) (by decide) (Nat.le_of_eq rfl) rfl at_131 rfl rfl rfl (by decide) (by decide) (own_max l Z a0 hw n0 hh av bv ) (r1_next fun r20 h18 q19 => ?_)
      obtain ⟨rfl, rfl⟩ := q19
      refine WP.istore K 136 [.val (.int pc_), .val (.int px), .val (.int py), .val (.int pm), .val (.int pq), .val (.int pf), .val (.int cp), .val (.int av), .val (.int bv), .val (.int pv), .val (.int fv), .val (.ref so), .val (.int (min32 av bv)), .val (.int (max32 av bv)), .unset] at_134 rfl rfl ?_
      have mn := min32_spec av bv
      have mx := max32_spec av bv
      generalize (min32 av bv) = lo at mn mx ⊢
      generalize (max32 av bv) = hi at mn mx ⊢
      have J167 : ∀ en : Int32, (nf ≤ lo.toInt → en.toInt = lo.toInt) → (lo.toInt < nf → nf ≤ hi.toInt → en.toInt = hi.toInt) → (hi.toInt < nf → en.toInt = -1) → WP k hh 5 301 167 [.val (.int pc_), .val (.int px), .val (.int py), .val (.int pm), .val (.int pq), .val (.int pf), .val (.int cp), .val (.int av), .val (.int bv), .val (.int pv), .val (.int fv), .val (.ref so), .val (.int lo), .val (.int hi), .val (.int en)] [] := by
        intro en h1 h2 h3
        have hne : (fun s => s = na ∨ s = nb) na := Or.inl rfl
        refine WP.aload K 169 at_167 rfl rfl rfl ?_
        refine WP.callV K (a := so) (C := "com/example/curtail/curtail/SlotSet") 172 5 301 0 [] [] (hw _ (List.mem_of_getElem? (i := 30) rfl)) (hw _ (List.mem_of_getElem? (i := 31) rfl)) rfl (hw _ (List.mem_of_getElem? (i := 33) rfl)) (hw _ (List.mem_of_getElem? (i := 32) rfl)) (hw _ (List.mem_of_getElem? (i := 7) rfl)) (hw _ (List.mem_of_getElem? (i := 34) rfl)) (by decide) own_pd_4 rfl rfl rfl (by decide) (by decide) (Nat.le_of_eq rfl) rfl at_169 rfl rfl rfl (by decide) (by decide) H.1 (own_isempty l Z a0 hw n0 hh so lv as Vs cap _ H G ) (r1_next fun r23 h21 q22 => ?_)
        obtain ⟨hq, rfl⟩ := q22
        obtain rfl : r23 = .int 0 := by
          rcases hq with ⟨-, q⟩ | ⟨q, -⟩
          · exact absurd (Or.inl rfl) (q na)
          · exact q
        refine WP.if_eq K 177 175 at_172 (by decide) rfl (fun c172 => ?_) (fun c172 => ?_)
        · skip
          refine WP.aload K 179 at_177 rfl rfl rfl ?_
          refine WP.iload K 181 at_179 rfl rfl ?_
          refine WP.callV K (a := so) (C := "com/example/curtail/curtail/SlotSet") 184 5 301 0 [(.int av)] [] (hw _ (List.mem_of_getElem? (i := 35) rfl)) (hw _ (List.mem_of_getElem? (i := 36) rfl)) rfl (hw _ (List.mem_of_getElem? (i := 38) rfl)) (hw _ (List.mem_of_getElem? (i := 37) rfl)) (hw _ (List.mem_of_getElem? (i := 7) rfl)) (hw _ (List.mem_of_getElem? (i := 39) rfl)) (by decide) own_pd_5 rfl rfl rfl (by decide) (by decide) (Nat.le_of_eq rfl) rfl at_181 rfl rfl rfl (by decide) (by decide) H.1 (own_contains l Z a0 hw n0 hh so lv as Vs cap _ H G av na hav hna) (r1_next fun r26 h24 q25 => ?_)
          obtain ⟨hq, rfl⟩ := q25
          obtain rfl : r26 = .int 1 := by
            rcases hq with ⟨q, -⟩ | ⟨-, q⟩
            · exact q
            · exact absurd (Or.inl rfl) q
          refine WP.if_eq K 197 187 at_184 (by decide) rfl (fun c184 => ?_) (fun c184 => ?_)
          · skip
            exact absurd c184 (by decide)
          · skip
            refine WP.aload K 189 at_187 rfl rfl rfl ?_
            refine WP.iload K 191 at_189 rfl rfl ?_
            refine WP.callV K (a := so) (C := "com/example/curtail/curtail/SlotSet") 194 5 301 0 [(.int bv)] [] (hw _ (List.mem_of_getElem? (i := 35) rfl)) (hw _ (List.mem_of_getElem? (i := 36) rfl)) rfl (hw _ (List.mem_of_getElem? (i := 38) rfl)) (hw _ (List.mem_of_getElem? (i := 37) rfl)) (hw _ (List.mem_of_getElem? (i := 7) rfl)) (hw _ (List.mem_of_getElem? (i := 39) rfl)) (by decide) own_pd_5 rfl rfl rfl (by decide) (by decide) (Nat.le_of_eq rfl) rfl at_191 rfl rfl rfl (by decide) (by decide) H.1 (own_contains l Z a0 hw n0 hh so lv as Vs cap _ H G bv nb hbv hnb) (r1_next fun r29 h27 q28 => ?_)
            obtain ⟨hq, rfl⟩ := q28
            obtain rfl : r29 = .int 1 := by
              rcases hq with ⟨q, -⟩ | ⟨-, q⟩
              · exact q
              · exact absurd (Or.inr rfl) q
            refine WP.if_ne K 199 197 at_194 (by decide) rfl (fun c194 => ?_) (fun c194 => ?_)
            · skip
              refine WP.aload K 201 at_199 rfl rfl rfl ?_
              refine WP.iload K 203 at_201 rfl rfl ?_
              refine WP.callV K (a := so) (C := "com/example/curtail/curtail/SlotSet") 206 5 301 0 [(.int pv)] [] (hw _ (List.mem_of_getElem? (i := 35) rfl)) (hw _ (List.mem_of_getElem? (i := 36) rfl)) rfl (hw _ (List.mem_of_getElem? (i := 38) rfl)) (hw _ (List.mem_of_getElem? (i := 37) rfl)) (hw _ (List.mem_of_getElem? (i := 7) rfl)) (hw _ (List.mem_of_getElem? (i := 39) rfl)) (by decide) own_pd_5 rfl rfl rfl (by decide) (by decide) (Nat.le_of_eq rfl) rfl at_203 rfl rfl rfl (by decide) (by decide) H.1 (own_contains l Z a0 hw n0 hh so lv as Vs cap _ H G pv np hpv hnp) (r1_next fun r32 h30 q31 => ?_)
              obtain ⟨hq, rfl⟩ := q31
              rcases hq with ⟨rfl, hS⟩ | ⟨rfl, hS⟩
              · skip
                have hS : np = na ∨ np = nb := hS
                refine WP.iload K 208 at_206 rfl rfl ?_
                refine WP.iload K 210 at_208 rfl rfl ?_
                refine WP.icmp_eq K 220 213 at_210 (by decide) rfl (fun c210 => ?_) (fun c210 => ?_)
                · skip
                  refine WP.iconst K (1 : Int32) 221 at_220 rfl rfl ?_
                  refine WP.goto K 225 at_221 (by decide) ?_
                  refine WP.icmp_eq K 230 228 at_225 (by decide) rfl (fun c225 => ?_) (fun c225 => ?_)
                  · skip
                    refine WP.aload K 232 at_230 rfl rfl rfl ?_
                    refine WP.callV K (a := so) (C := "com/example/curtail/curtail/SlotSet") 235 5 301 0 [] [] (hw _ (List.mem_of_getElem? (i := 40) rfl)) (hw _ (List.mem_of_getElem? (i := 41) rfl)) rfl (hw _ (List.mem_of_getElem? (i := 43) rfl)) (hw _ (List.mem_of_getElem? (i := 42) rfl)) (hw _ (List.mem_of_getElem? (i := 7) rfl)) (hw _ (List.mem_of_getElem? (i := 44) rfl)) (by decide) own_pd_6 rfl rfl rfl (by decide) (by decide) (Nat.le_of_eq rfl) rfl at_232 rfl rfl rfl (by decide) (by decide) H.1 (own_first l Z a0 hw n0 hh so lv as Vs cap _ H G ⟨_, hne⟩) (r1_next fun r35 h33 q34 => ?_)
                    obtain ⟨⟨zf, mf, rfl, hzf, hSf, hmf⟩, rfl⟩ := q34
                    have hSf : mf = na ∨ mf = nb := hSf
                    have g1 := hmf na (Or.inl rfl)
                    have g2 := hmf nb (Or.inr rfl)
                    refine WP.iload K 237 at_235 rfl rfl ?_
                    refine WP.icmp_eq K 242 240 at_237 (by decide) rfl (fun c237 => ?_) (fun c237 => ?_)
                    · skip
                      refine WP.aload K 244 at_242 rfl rfl rfl ?_
                      refine WP.iload K 246 at_244 rfl rfl ?_
                      refine WP.callV K (a := so) (C := "com/example/curtail/curtail/SlotSet") 249 5 301 0 [(.int fv)] [] (hw _ (List.mem_of_getElem? (i := 53) rfl)) (hw _ (List.mem_of_getElem? (i := 54) rfl)) rfl (hw _ (List.mem_of_getElem? (i := 56) rfl)) (hw _ (List.mem_of_getElem? (i := 55) rfl)) (hw _ (List.mem_of_getElem? (i := 7) rfl)) (hw _ (List.mem_of_getElem? (i := 57) rfl)) (by decide) own_pd_1 rfl rfl rfl (by decide) (by decide) (Nat.le_of_eq rfl) rfl at_246 rfl rfl rfl (by decide) (by decide) H.1 (own_next l Z a0 hw n0 hh so lv as Vs cap _ H G fv nf hfv (by omega) (by omega)) (r1_next fun r38 h36 q37 => ?_)
                      obtain ⟨hq, rfl⟩ := q37
                      rcases hq with ⟨zn, mn_, rfl, hzn, hSn, hfn, hmn⟩ | ⟨rfl, hno⟩
                      · skip
                        have hSn : mn_ = na ∨ mn_ = nb := hSn
                        have f1 := hmn na (Or.inl rfl)
                        have f2 := hmn nb (Or.inr rfl)
                        refine WP.iload K 251 at_249 rfl rfl ?_
                        refine WP.icmp_ne K 258 254 at_251 (by decide) rfl (fun c251 => ?_) (fun c251 => ?_)
                        · skip
                          refine WP.iconst K (0 : Int32) 259 at_258 rfl rfl ?_
                          refine WP.iret K rfl (Or.inr (Or.inl rfl)) rfl at_259 ?_ (by decide) (by decide)
                          exfalso; omega
                        · skip
                          refine WP.iconst K (1 : Int32) 255 at_254 rfl rfl ?_
                          refine WP.goto K 259 at_255 (by decide) ?_
                          refine WP.iret K rfl (Or.inr (Or.inl rfl)) rfl at_259 ?_ (by decide) (by decide)
                          exact ⟨_, rfl, rfl⟩
                      · skip
                        have f1 := hno na (Or.inl rfl)
                        have f2 := hno nb (Or.inr rfl)
                        refine WP.iload K 251 at_249 rfl rfl ?_
                        refine WP.icmp_ne K 258 254 at_251 (by decide) rfl (fun c251 => ?_) (fun c251 => ?_)
                        · skip
                          refine WP.iconst K (0 : Int32) 259 at_258 rfl rfl ?_
                          refine WP.iret K rfl (Or.inr (Or.inl rfl)) rfl at_259 ?_ (by decide) (by decide)
                          exfalso; omega
                        · skip
                          refine WP.iconst K (1 : Int32) 255 at_254 rfl rfl ?_
                          refine WP.goto K 259 at_255 (by decide) ?_
                          refine WP.iret K rfl (Or.inr (Or.inl rfl)) rfl at_259 ?_ (by decide) (by decide)
                          exact ⟨_, rfl, rfl⟩
                    · skip
                      exfalso; omega
                  · skip
                    exact absurd c225 (by decide)
                · skip
                  refine WP.iload K 215 at_213 rfl rfl ?_
                  refine WP.iload K 217 at_215 rfl rfl ?_
                  refine WP.icmp_ne K 224 220 at_217 (by decide) rfl (fun c217 => ?_) (fun c217 => ?_)
                  · skip
                    refine WP.iconst K (0 : Int32) 225 at_224 rfl rfl ?_
                    refine WP.icmp_eq K 230 228 at_225 (by decide) rfl (fun c225 => ?_) (fun c225 => ?_)
                    · skip
                      exact absurd c225 (by decide)
                    · skip
                      refine WP.iconst K (0 : Int32) 229 at_228 rfl rfl ?_
                      refine WP.iret K rfl (Or.inr (Or.inl rfl)) rfl at_229 ?_ (by decide) (by decide)
                      exfalso; omega
                  · skip
                    refine WP.iconst K (1 : Int32) 221 at_220 rfl rfl ?_
                    refine WP.goto K 225 at_221 (by decide) ?_
                    refine WP.icmp_eq K 230 228 at_225 (by decide) rfl (fun c225 => ?_) (fun c225 => ?_)
                    · skip
                      refine WP.aload K 232 at_230 rfl rfl rfl ?_
                      refine WP.callV K (a := so) (C := "com/example/curtail/curtail/SlotSet") 235 5 301 0 [] [] (hw _ (List.mem_of_getElem? (i := 40) rfl)) (hw _ (List.mem_of_getElem? (i := 41) rfl)) rfl (hw _ (List.mem_of_getElem? (i := 43) rfl)) (hw _ (List.mem_of_getElem? (i := 42) rfl)) (hw _ (List.mem_of_getElem? (i := 7) rfl)) (hw _ (List.mem_of_getElem? (i := 44) rfl)) (by decide) own_pd_6 rfl rfl rfl (by decide) (by decide) (Nat.le_of_eq rfl) rfl at_232 rfl rfl rfl (by decide) (by decide) H.1 (own_first l Z a0 hw n0 hh so lv as Vs cap _ H G ⟨_, hne⟩) (r1_next fun r41 h39 q40 => ?_)
                      obtain ⟨⟨zf, mf, rfl, hzf, hSf, hmf⟩, rfl⟩ := q40
                      have hSf : mf = na ∨ mf = nb := hSf
                      have g1 := hmf na (Or.inl rfl)
                      have g2 := hmf nb (Or.inr rfl)
                      refine WP.iload K 237 at_235 rfl rfl ?_
                      refine WP.icmp_eq K 242 240 at_237 (by decide) rfl (fun c237 => ?_) (fun c237 => ?_)
                      · skip
                        refine WP.aload K 244 at_242 rfl rfl rfl ?_
                        refine WP.iload K 246 at_244 rfl rfl ?_
                        refine WP.callV K (a := so) (C := "com/example/curtail/curtail/SlotSet") 249 5 301 0 [(.int fv)] [] (hw _ (List.mem_of_getElem? (i := 53) rfl)) (hw _ (List.mem_of_getElem? (i := 54) rfl)) rfl (hw _ (List.mem_of_getElem? (i := 56) rfl)) (hw _ (List.mem_of_getElem? (i := 55) rfl)) (hw _ (List.mem_of_getElem? (i := 7) rfl)) (hw _ (List.mem_of_getElem? (i := 57) rfl)) (by decide) own_pd_1 rfl rfl rfl (by decide) (by decide) (Nat.le_of_eq rfl) rfl at_246 rfl rfl rfl (by decide) (by decide) H.1 (own_next l Z a0 hw n0 hh so lv as Vs cap _ H G fv nf hfv (by omega) (by omega)) (r1_next fun r44 h42 q43 => ?_)
                        obtain ⟨hq, rfl⟩ := q43
                        rcases hq with ⟨zn, mn_, rfl, hzn, hSn, hfn, hmn⟩ | ⟨rfl, hno⟩
                        · skip
                          have hSn : mn_ = na ∨ mn_ = nb := hSn
                          have f1 := hmn na (Or.inl rfl)
                          have f2 := hmn nb (Or.inr rfl)
                          refine WP.iload K 251 at_249 rfl rfl ?_
                          refine WP.icmp_ne K 258 254 at_251 (by decide) rfl (fun c251 => ?_) (fun c251 => ?_)
                          · skip
                            refine WP.iconst K (0 : Int32) 259 at_258 rfl rfl ?_
                            refine WP.iret K rfl (Or.inr (Or.inl rfl)) rfl at_259 ?_ (by decide) (by decide)
                            exfalso; omega
                          · skip
                            refine WP.iconst K (1 : Int32) 255 at_254 rfl rfl ?_
                            refine WP.goto K 259 at_255 (by decide) ?_
                            refine WP.iret K rfl (Or.inr (Or.inl rfl)) rfl at_259 ?_ (by decide) (by decide)
                            exact ⟨_, rfl, rfl⟩
                        · skip
                          have f1 := hno na (Or.inl rfl)
                          have f2 := hno nb (Or.inr rfl)
                          refine WP.iload K 251 at_249 rfl rfl ?_
                          refine WP.icmp_ne K 258 254 at_251 (by decide) rfl (fun c251 => ?_) (fun c251 => ?_)
                          · skip
                            refine WP.iconst K (0 : Int32) 259 at_258 rfl rfl ?_
                            refine WP.iret K rfl (Or.inr (Or.inl rfl)) rfl at_259 ?_ (by decide) (by decide)
                            exfalso; omega
                          · skip
                            refine WP.iconst K (1 : Int32) 255 at_254 rfl rfl ?_
                            refine WP.goto K 259 at_255 (by decide) ?_
                            refine WP.iret K rfl (Or.inr (Or.inl rfl)) rfl at_259 ?_ (by decide) (by decide)
                            exact ⟨_, rfl, rfl⟩
                      · skip
                        exfalso; omega
                    · skip
                      exact absurd c225 (by decide)
              · skip
                have hS : ¬ (np = na ∨ np = nb) := hS
                refine WP.iload K 208 at_206 rfl rfl ?_
                refine WP.iload K 210 at_208 rfl rfl ?_
                refine WP.icmp_eq K 220 213 at_210 (by decide) rfl (fun c210 => ?_) (fun c210 => ?_)
                · skip
                  refine WP.iconst K (1 : Int32) 221 at_220 rfl rfl ?_
                  refine WP.goto K 225 at_221 (by decide) ?_
                  refine WP.icmp_eq K 230 228 at_225 (by decide) rfl (fun c225 => ?_) (fun c225 => ?_)
                  · skip
                    exact absurd c225 (by decide)
                  · skip
                    refine WP.iconst K (0 : Int32) 229 at_228 rfl rfl ?_
                    refine WP.iret K rfl (Or.inr (Or.inl rfl)) rfl at_229 ?_ (by decide) (by decide)
                    exfalso; omega
                · skip
                  refine WP.iload K 215 at_213 rfl rfl ?_
                  refine WP.iload K 217 at_215 rfl rfl ?_
                  refine WP.icmp_ne K 224 220 at_217 (by decide) rfl (fun c217 => ?_) (fun c217 => ?_)
                  · skip
                    refine WP.iconst K (0 : Int32) 225 at_224 rfl rfl ?_
                    refine WP.icmp_eq K 230 228 at_225 (by decide) rfl (fun c225 => ?_) (fun c225 => ?_)
                    · skip
                      refine WP.aload K 232 at_230 rfl rfl rfl ?_
                      refine WP.callV K (a := so) (C := "com/example/curtail/curtail/SlotSet") 235 5 301 0 [] [] (hw _ (List.mem_of_getElem? (i := 40) rfl)) (hw _ (List.mem_of_getElem? (i := 41) rfl)) rfl (hw _ (List.mem_of_getElem? (i := 43) rfl)) (hw _ (List.mem_of_getElem? (i := 42) rfl)) (hw _ (List.mem_of_getElem? (i := 7) rfl)) (hw _ (List.mem_of_getElem? (i := 44) rfl)) (by decide) own_pd_6 rfl rfl rfl (by decide) (by decide) (Nat.le_of_eq rfl) rfl at_232 rfl rfl rfl (by decide) (by decide) H.1 (own_first l Z a0 hw n0 hh so lv as Vs cap _ H G ⟨_, hne⟩) (r1_next fun r47 h45 q46 => ?_)
                      obtain ⟨⟨zf, mf, rfl, hzf, hSf, hmf⟩, rfl⟩ := q46
                      have hSf : mf = na ∨ mf = nb := hSf
                      have g1 := hmf na (Or.inl rfl)
                      have g2 := hmf nb (Or.inr rfl)
                      refine WP.iload K 237 at_235 rfl rfl ?_
                      refine WP.icmp_eq K 242 240 at_237 (by decide) rfl (fun c237 => ?_) (fun c237 => ?_)
                      · skip
                        refine WP.aload K 244 at_242 rfl rfl rfl ?_
                        refine WP.iload K 246 at_244 rfl rfl ?_
                        refine WP.callV K (a := so) (C := "com/example/curtail/curtail/SlotSet") 249 5 301 0 [(.int fv)] [] (hw _ (List.mem_of_getElem? (i := 53) rfl)) (hw _ (List.mem_of_getElem? (i := 54) rfl)) rfl (hw _ (List.mem_of_getElem? (i := 56) rfl)) (hw _ (List.mem_of_getElem? (i := 55) rfl)) (hw _ (List.mem_of_getElem? (i := 7) rfl)) (hw _ (List.mem_of_getElem? (i := 57) rfl)) (by decide) own_pd_1 rfl rfl rfl (by decide) (by decide) (Nat.le_of_eq rfl) rfl at_246 rfl rfl rfl (by decide) (by decide) H.1 (own_next l Z a0 hw n0 hh so lv as Vs cap _ H G fv nf hfv (by omega) (by omega)) (r1_next fun r50 h48 q49 => ?_)
                        obtain ⟨hq, rfl⟩ := q49
                        rcases hq with ⟨zn, mn_, rfl, hzn, hSn, hfn, hmn⟩ | ⟨rfl, hno⟩
                        · skip
                          have hSn : mn_ = na ∨ mn_ = nb := hSn
                          have f1 := hmn na (Or.inl rfl)
                          have f2 := hmn nb (Or.inr rfl)
                          refine WP.iload K 251 at_249 rfl rfl ?_
                          refine WP.icmp_ne K 258 254 at_251 (by decide) rfl (fun c251 => ?_) (fun c251 => ?_)
                          · skip
                            refine WP.iconst K (0 : Int32) 259 at_258 rfl rfl ?_
                            refine WP.iret K rfl (Or.inr (Or.inl rfl)) rfl at_259 ?_ (by decide) (by decide)
                            exfalso; omega
                          · skip
                            refine WP.iconst K (1 : Int32) 255 at_254 rfl rfl ?_
                            refine WP.goto K 259 at_255 (by decide) ?_
                            refine WP.iret K rfl (Or.inr (Or.inl rfl)) rfl at_259 ?_ (by decide) (by decide)
                            exact ⟨_, rfl, rfl⟩
                        · skip
                          have f1 := hno na (Or.inl rfl)
                          have f2 := hno nb (Or.inr rfl)
                          refine WP.iload K 251 at_249 rfl rfl ?_
                          refine WP.icmp_ne K 258 254 at_251 (by decide) rfl (fun c251 => ?_) (fun c251 => ?_)
                          · skip
                            refine WP.iconst K (0 : Int32) 259 at_258 rfl rfl ?_
                            refine WP.iret K rfl (Or.inr (Or.inl rfl)) rfl at_259 ?_ (by decide) (by decide)
                            exfalso; omega
                          · skip
                            refine WP.iconst K (1 : Int32) 255 at_254 rfl rfl ?_
                            refine WP.goto K 259 at_255 (by decide) ?_
                            refine WP.iret K rfl (Or.inr (Or.inl rfl)) rfl at_259 ?_ (by decide) (by decide)
                            exact ⟨_, rfl, rfl⟩
                      · skip
                        exfalso; omega
                    · skip
                      exact absurd c225 (by decide)
                  · skip
                    refine WP.iconst K (1 : Int32) 221 at_220 rfl rfl ?_
                    refine WP.goto K 225 at_221 (by decide) ?_
                    refine WP.icmp_eq K 230 228 at_225 (by decide) rfl (fun c225 => ?_) (fun c225 => ?_)
                    · skip
                      exact absurd c225 (by decide)
                    · skip
                      refine WP.iconst K (0 : Int32) 229 at_228 rfl rfl ?_
                      refine WP.iret K rfl (Or.inr (Or.inl rfl)) rfl at_229 ?_ (by decide) (by decide)
                      exfalso; omega
            · skip
              exact absurd c194 (by decide)
        · skip
          exact absurd c172 (by decide)
      refine WP.iload K 138 at_136 rfl rfl ?_
      refine WP.iload K 140 at_138 rfl rfl ?_
      refine WP.icmp_gt K 150 143 at_140 (by decide) rfl (fun c140 => ?_) (fun c140 => ?_)
      · skip
        refine WP.iload K 152 at_150 rfl rfl ?_
        refine WP.iload K 154 at_152 rfl rfl ?_
        refine WP.icmp_gt K 164 157 at_154 (by decide) rfl (fun c154 => ?_) (fun c154 => ?_)
        · skip
          refine WP.iconst K ((-1) : Int32) 165 at_164 rfl rfl ?_
          refine WP.istore K 167 [.val (.int pc_), .val (.int px), .val (.int py), .val (.int pm), .val (.int pq), .val (.int pf), .val (.int cp), .val (.int av), .val (.int bv), .val (.int pv), .val (.int fv), .val (.ref so), .val (.int lo), .val (.int hi), .val (.int ((-1) : Int32))] at_165 rfl rfl ?_
          exact J167 _ (by intros; omega) (by intros; omega) (by intros; omega)
        · skip
          refine WP.iload K 159 at_157 rfl rfl ?_
          refine WP.istore K 161 [.val (.int pc_), .val (.int px), .val (.int py), .val (.int pm), .val (.int pq), .val (.int pf), .val (.int cp), .val (.int av), .val (.int bv), .val (.int pv), .val (.int fv), .val (.ref so), .val (.int lo), .val (.int hi), .val (.int hi)] at_159 rfl rfl ?_
          refine WP.goto K 167 at_161 (by decide) ?_
          exact J167 _ (by intros; omega) (by intros; omega) (by intros; omega)
      · skip
        refine WP.iload K 145 at_143 rfl rfl ?_
        refine WP.istore K 147 [.val (.int pc_), .val (.int px), .val (.int py), .val (.int pm), .val (.int pq), .val (.int pf), .val (.int cp), .val (.int av), .val (.int bv), .val (.int pv), .val (.int fv), .val (.ref so), .val (.int lo), .val (.int hi), .val (.int lo)] at_145 rfl rfl ?_
        refine WP.goto K 167 at_147 (by decide) ?_
        exact J167 _ (by intros; omega) (by intros; omega) (by intros; omega)
    refine WP.iloadN K 106 at_105 rfl rfl ?_
    refine WP.iconst K (2 : Int32) 107 at_106 rfl rfl ?_
    refine WP.iand K 108 at_107 rfl ?_
    refine WP.if_eq K 118 111 at_108 (by decide) rfl (fun c108 => ?_) (fun c108 => ?_)
    · skip
      exact J118 _ _ H11 (good_iff (fun s => by first | (simp only [false_or]; done) | (simp only [false_or]; omega) | omega) G11) Z0
    · skip
      refine WP.aload K 113 at_111 rfl rfl rfl ?_
      refine WP.iload K 115 at_113 rfl rfl ?_
      refine WP.callV K (a := so) (C := "com/example/curtail/curtail/SlotSet") 118 5 301 0 [(.int av)] [] (hw _ (List.mem_of_getElem? (i := 24) rfl)) (hw _ (List.mem_of_getElem? (i := 25) rfl)) rfl (hw _ (List.mem_of_getElem? (i := 27) rfl)) (hw _ (List.mem_of_getElem? (i := 26) rfl)) (hw _ (List.mem_of_getElem? (i := 7) rfl)) (hw _ (List.mem_of_getElem? (i := 28) rfl)) (by decide) own_pd_3 rfl rfl rfl (by decide) (by decide) (Nat.le_of_eq rfl) rfl at_115 rfl rfl rfl (by decide) (by decide) H11.1 (own_add l Z a0 hw n0 h12 so lv as Ws11 cap _ H11 G11 av na hav hna) (r0_next fun h52 q53 => ?_)
      obtain ⟨Ku51, Ws51, H51, G51⟩ := q53
      have Z0 : n0 ≤ h52.size := Nat.le_trans Z0 Ku51.1
      exact J118 _ _ H51 (good_iff (fun s => by first | (simp only [false_or]; done) | (simp only [false_or]; omega) | omega) G51) Z0
  refine WP.iloadN K 19 at_18 rfl rfl ?_
  refine WP.iconst K (1 : Int32) 20 at_19 rfl rfl ?_
  refine WP.iand K 21 at_20 rfl ?_
  refine WP.if_eq K 49 24 at_21 (by decide) rfl (fun c21 => ?_) (fun c21 => ?_)
  · skip
    refine WP.iloadN K 50 at_49 rfl rfl ?_
    refine WP.ldcI K (v := (2147483647 : Int32)) 52 (hw _ (List.mem_of_getElem? (i := 0) rfl)) at_50 rfl ?_
    refine WP.iand K 53 at_52 rfl ?_
    refine WP.iload K 55 at_53 rfl rfl ?_
    refine WP.irem K 56 at_55 rfl (own_nz hcp (by omega)) ?_
    refine WP.istore K 58 [.val (.int pc_), .val (.int px), .val (.int py), .val (.int pm), .val (.int pq), .val (.int pf), .val (.int cp), .val (.int av), .val (.int ((py &&& (2147483647 : Int32)) % cp)), .unset, .unset, .unset, .unset, .unset, .unset] at_56 rfl rfl ?_
    obtain ⟨nb, hbv, hnb⟩ := own_rem (x := py) hcp (by omega)
    exact J58 _ nb hbv hnb
  · skip
    refine WP.iload K 26 at_24 rfl rfl ?_
    refine WP.iconst K (1 : Int32) 27 at_26 rfl rfl ?_
    refine WP.isub K 28 at_27 rfl ?_
    refine WP.iload K 30 at_28 rfl rfl ?_
    refine WP.iload K 32 at_30 rfl rfl ?_
    refine WP.bipush K (63 : Int32) 34 at_32 rfl rfl ?_
    refine WP.iand K 35 at_34 rfl ?_
    refine WP.isub K 36 at_35 rfl ?_
    refine WP.iloadN K 37 at_36 rfl rfl ?_
    refine WP.bipush K (63 : Int32) 39 at_37 rfl rfl ?_
    refine WP.iand K 40 at_39 rfl ?_
    refine WP.iadd K 41 at_40 rfl ?_
    refine WP.callS K 44 0 0 0 [(.int (cp - (1 : Int32))), (.int ((av - (av &&& (63 : Int32))) + (py &&& (63 : Int32))))] [] (hw _ (List.mem_of_getElem? (i := 1) rfl)) (hw _ (List.mem_of_getElem? (i := 2) rfl)) (hw _ (List.mem_of_getElem? (i := 3) rfl)) (hw _ (List.mem_of_getElem? (i := 4) rfl)) (by decide) own_pd_0 rfl rfl rfl (by decide) (by decide) (Nat.le_of_eq rfl) rfl at_41 rfl rfl rfl (by decide) (by decide) (own_min l Z a0 hw n0 h (cp - (1 : Int32)) ((av - (av &&& (63 : Int32))) + (py &&& (63 : Int32))) ) (r1_next fun r57 h55 q56 => ?_)
    obtain ⟨rfl, rfl⟩ := q56
    refine WP.istore K 46 [.val (.int pc_), .val (.int px), .val (.int py), .val (.int pm), .val (.int pq), .val (.int pf), .val (.int cp), .val (.int av), .val (.int (min32 (cp - (1 : Int32)) ((av - (av &&& (63 : Int32))) + (py &&& (63 : Int32))))), .unset, .unset, .unset, .unset, .unset, .unset] at_44 rfl rfl ?_
    refine WP.goto K 58 at_46 (by decide) ?_
    have m1 := c_mask av (63 : Int32) 6 (by decide) rfl
    have m2 := c_mask py (63 : Int32) 6 (by decide) rfl
    have s1 : (av - (av &&& (63 : Int32))).toInt = av.toInt - (av &&& (63 : Int32)).toInt := i32_sub (by omega) (by omega)
    have s2 : ((av - (av &&& (63 : Int32))) + (py &&& (63 : Int32))).toInt = (av - (av &&& (63 : Int32))).toInt + (py &&& (63 : Int32)).toInt := i32_add (by omega) (by omega)
    have s3 : (cp - (1 : Int32)).toInt = cp.toInt - 1 := by rw [i32_sub (by omega) (by omega)]; omega
    have mn := min32_spec (cp - (1 : Int32)) ((av - (av &&& (63 : Int32))) + (py &&& (63 : Int32)))
    exact J58 _ (min32 (cp - (1 : Int32)) ((av - (av &&& (63 : Int32))) + (py &&& (63 : Int32)))).toInt.toNat (by omega) (by omega)
set_option maxRecDepth 65536 in
set_option maxHeartbeats 40000000 in
theorem comes_1 {Post : Tables → Env → Array Value → State → Outcome → State → Prop} (hpost : ∀ tb e args s v u, (limb_1_1.after args s (.returned v) u = true ∧ limb_1_2.after args s (.returned v) u = true ∧ True) → FrameEnd s (.returned v) u (Jvm.fieldLocs frame_1_writes args s ++ Jvm.arrayLocs frame_1_arrays args s ++ Jvm.staticLocs frame_1_statics s) 24 640 → Post tb e args s (.returned v) u) :
    ArmFor flags0 classFile x code maxLocals ret World_1 tables_1 room_1 Calls_1 rest_1 Pre_1 Post := by
  intro l hfl _ _ p e ha hc hk s m args below hf hA hF happ hP
  obtain ⟨hcalls, hrest, hpre⟩ := hP
  obtain ⟨-, -, -, hnamed, -, -, -, hat⟩ := (Spec.applies_iff hf).mp happ
  obtain ⟨hg, hn⟩ := and_e (Cond.before_iff.mp (show (Jvm.Cond.and given_1 narrow_1).before args s = true from hpre))
  obtain ⟨g0, g1⟩ := and_e hg
  obtain ⟨w0, w1, w2, w3, w4, w5, rfl⟩ : ∃ w0 w1 w2 w3 w4 w5 : Value, args = #[w0, w1, w2, w3, w4, w5] := by
    have hs : args.size = 6 := by simpa [Cond.value, given_1] using g0
    obtain ⟨L⟩ := args
    match L, hs with
    | [w0, w1, w2, w3, w4, w5], _ => exact ⟨w0, w1, w2, w3, w4, w5, rfl⟩
  have hw := fun d (hd : d ∈ tables_1) => atoms_spec (ws := Jvm.Cond.code x code maxLocals ret :: tables_1) hat d (List.mem_cons_of_mem _ hd)
  have hfit : Fit s := fun {y c} hc i hi => by
    obtain ⟨ha, rfl⟩ := Array.getElem?_eq_some_iff.mp hc
    have q := List.all_eq_true.mp ((Array.all_eq_true_iff_forall_mem.mp hF) _ (Array.getElem_mem ha)) i (List.mem_range.mpr hi)
    simpa [Array.getElem?_eq_getElem hi] using q
  obtain ⟨u0, g2⟩ := and_e g1
  obtain ⟨i0, ei0⟩ := is_v u0
  obtain rfl : w0 = (.int i0) := Option.some.inj ei0
  obtain ⟨u1, g3⟩ := and_e g2
  obtain ⟨i1, ei1⟩ := is_v u1
  obtain rfl : w1 = (.int i1) := Option.some.inj ei1
  obtain ⟨u2, g4⟩ := and_e g3
  obtain ⟨i2, ei2⟩ := is_v u2
  obtain rfl : w2 = (.int i2) := Option.some.inj ei2
  obtain ⟨u3, g5⟩ := and_e g4
  obtain ⟨i3, ei3⟩ := is_v u3
  obtain rfl : w3 = (.int i3) := Option.some.inj ei3
  obtain ⟨u4, g6⟩ := and_e g5
  obtain ⟨i4, ei4⟩ := is_v u4
  obtain rfl : w4 = (.int i4) := Option.some.inj ei4
  obtain ⟨i5, ei5⟩ := is_v g6
  obtain rfl : w5 = (.int i5) := Option.some.inj ei5
  obtain ⟨n, o, h1, h2, h3, _, L, rfl, ⟨⟨_, rfl, rfl⟩, N⟩, hq⟩ := own_law l s _ hw s.heap.size s.heap i0 i1 i2 i3 i4 i5 (Nat.le_refl _) tables_1 p e ha hc hk s m _ below hf ((Spec.applies_iff_loose hf).mp happ).1 ⟨rfl, State.Warmed39.refl s, rfl⟩ trivial
  refine ⟨n, _, h1, h2, h3, hpost _ _ _ _ _ _ ⟨Cond.after_iff.mpr rfl, Cond.after_iff.mpr (eq_i res_at (Term.int_eval (1)) rfl), trivial⟩ ⟨hq.1, hq.2.1, (hq.2.2.sift fun y hy => Or.inr (N y hy)).mono (by decide) (by decide)⟩⟩
theorem main_1_1 : Claimed_1_1 := comes_1 fun _ _ _ _ _ _ h hF => ⟨h.1, hF⟩
theorem main_1_2 : Claimed_1_2 := comes_1 fun _ _ _ _ _ _ h hF => ⟨h.2.1, hF⟩
end Jvm.Pilot.@@N@@
namespace Jvm.Pilot.@@N@@
open Jvm Jvm.ClassFile Sem Op Lib Jvm.Free Jvm.Stand Jvm.Pilot.@@N@@.Jvm.D
/-! MADE BY PROGRAM (witnessworld.py) out of the Statement's table words and the real class files: 19 classes; the members and pool entries that the words name. The judged class is class 1, her method 1. -/
namespace start1
open Jvm.ClassFile
def u (s : String) : CpInfo := .utf8 (stringToUtf16 s)
/-- a pool by its gaps: so many unusable entries, then the entry; so many at the end -/
def gap : Nat → List CpInfo → List CpInfo
  | 0, r => r
  | n + 1, r => .unusable :: gap n r
def poolList (es : List (Nat × CpInfo)) (last : Nat) : List CpInfo := es.foldr (fun e r => gap e.1 (e.2 :: r)) (gap last [])
def pool (es : List (Nat × CpInfo)) (last : Nat) : Array CpInfo := ⟨poolList es last⟩
def fileOf (pool : Array CpInfo) (this : Nat) (attrs : Array Attribute := #[]) (ms : Array MethodInfo := #[]) (fl : Nat := 33) (sup : Nat := 0) (ifs : Array Nat := #[]) (fds : Array FieldInfo := #[]) : ClassFile where
  minorVersion := 0
  majorVersion := 65
  constantPool := pool
  accessFlags := fl
  thisClass := this
  superClass := sup
  interfaces := ifs
  fields := fds
  methods := ms
  attributes := attrs
def plain (name : String) (sup : Option ClassId) : Class where
  name := name
  kind := .ordinary
  loader := none
  accessFlags := 33
  super := sup
  interfaces := #[]
  cf := none
  fields := #[]
  methods := #[]
  instanceTypes := #[]
  staticTypes := #[]
  resolved := #[]
  callSites := []
  init := .initialized
  statics := none
  mirror := none

def pool0 : Array CpInfo := pool [(5, u "<init>"), (0, u "()V"), (1, .class_ 10), (1, u "java/lang/Object")] 113

def k0c0 : Code := { maxStack := 0, maxLocals := 1, code := object_method_1_code, exceptionTable := #[], attributes := #[] }
def k0m0 : Method := { name := "<init>", desc := "()V", sig := { parameters := [], returnType := none }, accessFlags := 1, code := some k0c0 }
/-- java/lang/Object -/
def k0 : Class := { plain "java/lang/Object" none with
  accessFlags := 33
  interfaces := #[]
  cf := some (fileOf pool0 8 #[] #[{ accessFlags := 1, nameIndex := 5, descriptorIndex := 6, attributes := #[] }] 33 0 #[] #[])
  fields := #[]
  methods := #[k0m0]
  instanceTypes := #[]
  staticTypes := #[]
  resolved := Array.replicate 124 none
  statics := none }

def pool1 : Array CpInfo := pool [(2, .class_ 4), (1, u "java/lang/Object"), (0, u "<init>"), (0, u "()V"), (0, .integer 2147483647), (0, .methodref 9 10), (0, .class_ 11), (0, .nameAndType 12 13), (0, u "java/lang/Math"), (0, u "min"), (0, u "(II)I"), (0, .class_ 15), (0, u "com/example/curtail/curtail/SlotSet"), (0, .methodref 14 17), (0, .nameAndType 5 18), (0, u "(I)V"), (0, .methodref 14 20), (0, .nameAndType 21 18), (0, u "add"), (0, .methodref 9 23), (0, .nameAndType 24 13), (0, u "max"), (0, .methodref 14 26), (0, .nameAndType 27 28), (0, u "isEmpty"), (0, u "()Z"), (0, .methodref 14 30), (0, .nameAndType 31 32), (0, u "contains"), (0, u "(I)Z"), (0, .methodref 14 34), (0, .nameAndType 35 36), (0, u "first"), (0, u "()I"), (0, .methodref 14 38), (0, .nameAndType 39 40), (0, u "next"), (0, u "(I)I"), (0, .class_ 42), (0, u "com/example/curtail/curtail/SlotSetAddPinLaw"), (2, u "law"), (0, u "(IIIIII)Z")] 3

def k1m0 : Method := { name := "<init>", desc := "()V", sig := { parameters := [], returnType := none }, accessFlags := 1, code := none }
def k1c1 : Code := { maxStack := 4, maxLocals := 15, code := code, exceptionTable := #[], attributes := #[] }
def k1m1 : Method := { name := "law", desc := "(IIIIII)Z", sig := { parameters := [.int, .int, .int, .int, .int, .int], returnType := some .boolean }, accessFlags := 9, code := some k1c1 }
/-- com/example/curtail/curtail/SlotSetAddPinLaw -/
def k1 : Class := { plain "com/example/curtail/curtail/SlotSetAddPinLaw" (some 0) with
  accessFlags := 49
  interfaces := #[]
  cf := some (fileOf pool1 41 #[] #[{ accessFlags := 1, nameIndex := 5, descriptorIndex := 6, attributes := #[] }, { accessFlags := 9, nameIndex := 45, descriptorIndex := 46, attributes := #[] }] 49 2 #[] #[])
  fields := #[]
  methods := #[k1m0, k1m1]
  instanceTypes := #[]
  staticTypes := #[]
  resolved := Array.replicate 50 none
  statics := none }

def pool2 : Array CpInfo := pool [(1, .class_ 2), (0, u "java/lang/Math"), (1, .class_ 6), (1, u "java/lang/Object"), (0, u "<init>"), (0, u "()V"), (89, .class_ 100), (1, u "java/lang/Math$RandomNumberGeneratorHolder"), (71, u "negativeZeroFloatBits"), (0, u "J"), (2, u "negativeZeroDoubleBits"), (21, u "max"), (2, u "min"), (43, u "$assertionsDisabled"), (0, u "Z"), (88, u "(II)I"), (2, u "twoToTheDoubleScaleDown"), (0, u "D"), (4, u "twoToTheDoubleScaleUp"), (9, u "E"), (3, u "PI"), (2, u "TAU"), (2, u "DEGREES_TO_RADIANS"), (0, u "RADIANS_TO_DEGREES")] 94

def k2m0 : Method := { name := "<init>", desc := "()V", sig := { parameters := [], returnType := none }, accessFlags := 2, code := none }
def k2c1 : Code := { maxStack := 2, maxLocals := 2, code := jdk_29_method_65_code, exceptionTable := #[], attributes := #[] }
def k2m1 : Method := { name := "max", desc := "(II)I", sig := { parameters := [.int, .int], returnType := some .int }, accessFlags := 9, code := some k2c1 }
def k2c2 : Code := { maxStack := 2, maxLocals := 2, code := jdk_29_method_69_code, exceptionTable := #[], attributes := #[] }
def k2m2 : Method := { name := "min", desc := "(II)I", sig := { parameters := [.int, .int], returnType := some .int }, accessFlags := 9, code := some k2c2 }
/-- java/lang/Math -/
def k2 : Class := { plain "java/lang/Math" (some 0) with
  accessFlags := 49
  interfaces := #[]
  cf := some (fileOf pool2 1 #[.nestMembers #[98]] #[{ accessFlags := 2, nameIndex := 7, descriptorIndex := 8, attributes := #[] }, { accessFlags := 9, nameIndex := 198, descriptorIndex := 335, attributes := #[] }, { accessFlags := 9, nameIndex := 201, descriptorIndex := 335, attributes := #[] }] 49 4 #[] #[{ accessFlags := 25, nameIndex := 354, descriptorIndex := 339, attributes := #[] }, { accessFlags := 25, nameIndex := 358, descriptorIndex := 339, attributes := #[] }, { accessFlags := 25, nameIndex := 361, descriptorIndex := 339, attributes := #[] }, { accessFlags := 26, nameIndex := 364, descriptorIndex := 339, attributes := #[] }, { accessFlags := 26, nameIndex := 365, descriptorIndex := 339, attributes := #[] }, { accessFlags := 26, nameIndex := 172, descriptorIndex := 173, attributes := #[] }, { accessFlags := 26, nameIndex := 176, descriptorIndex := 173, attributes := #[] }, { accessFlags := 8, nameIndex := 344, descriptorIndex := 339, attributes := #[] }, { accessFlags := 8, nameIndex := 338, descriptorIndex := 339, attributes := #[] }, { accessFlags := 4120, nameIndex := 245, descriptorIndex := 246, attributes := #[] }])
  fields := #[{ name := "E", type := .double, accessFlags := 25, slot := 0, constantValue := 0 }, { name := "PI", type := .double, accessFlags := 25, slot := 1, constantValue := 0 }, { name := "TAU", type := .double, accessFlags := 25, slot := 2, constantValue := 0 }, { name := "DEGREES_TO_RADIANS", type := .double, accessFlags := 26, slot := 3, constantValue := 0 }, { name := "RADIANS_TO_DEGREES", type := .double, accessFlags := 26, slot := 4, constantValue := 0 }, { name := "negativeZeroFloatBits", type := .long, accessFlags := 26, slot := 5, constantValue := 0 }, { name := "negativeZeroDoubleBits", type := .long, accessFlags := 26, slot := 6, constantValue := 0 }, { name := "twoToTheDoubleScaleUp", type := .double, accessFlags := 8, slot := 7, constantValue := 0 }, { name := "twoToTheDoubleScaleDown", type := .double, accessFlags := 8, slot := 8, constantValue := 0 }, { name := "$assertionsDisabled", type := .boolean, accessFlags := 4120, slot := 9, constantValue := 0 }]
  methods := #[k2m0, k2m1, k2m2]
  instanceTypes := #[]
  staticTypes := #[.double, .double, .double, .double, .double, .long, .long, .double, .double, .boolean]
  resolved := Array.replicate 460 none
  statics := none }

def pool3 : Array CpInfo := pool [(1, .methodref 2 3), (0, .class_ 4), (0, .nameAndType 5 6), (0, u "java/lang/Object"), (0, u "<init>"), (0, u "()V"), (0, .class_ 8), (0, u "java/lang/Long"), (0, .long 64), (1, .class_ 12), (0, u "[J"), (0, .fieldref 14 15), (0, .class_ 16), (0, .nameAndType 17 18), (0, u "com/example/curtail/curtail/SlotSet"), (0, u "levels"), (0, u "[[J"), (0, .methodref 20 21), (0, .class_ 22), (0, .nameAndType 23 24), (0, u "java/lang/Math"), (0, u "max"), (0, u "(II)I"), (0, .long 18446744073709551615), (1, .methodref 7 28), (0, .nameAndType 29 30), (0, u "numberOfTrailingZeros"), (0, u "(J)I"), (0, u "(I)V"), (3, u "isEmpty"), (0, u "()Z"), (0, u "contains"), (0, u "(I)Z"), (0, u "add"), (2, u "first"), (0, u "()I"), (0, u "next"), (0, u "(I)I")] 2

def k3c0 : Code := { maxStack := 5, maxLocals := 5, code := prog_175_method_1_code, exceptionTable := #[], attributes := #[] }
def k3m0 : Method := { name := "<init>", desc := "(I)V", sig := { parameters := [.int], returnType := none }, accessFlags := 0, code := some k3c0 }
def k3c1 : Code := { maxStack := 4, maxLocals := 1, code := prog_175_method_2_code, exceptionTable := #[], attributes := #[] }
def k3m1 : Method := { name := "isEmpty", desc := "()Z", sig := { parameters := [], returnType := some .boolean }, accessFlags := 0, code := some k3c1 }
def k3c2 : Code := { maxStack := 5, maxLocals := 2, code := prog_175_method_3_code, exceptionTable := #[], attributes := #[] }
def k3m2 : Method := { name := "contains", desc := "(I)Z", sig := { parameters := [.int], returnType := some .boolean }, accessFlags := 0, code := some k3c2 }
def k3c3 : Code := { maxStack := 7, maxLocals := 9, code := prog_175_method_4_code, exceptionTable := #[], attributes := #[] }
def k3m3 : Method := { name := "add", desc := "(I)V", sig := { parameters := [.int], returnType := none }, accessFlags := 0, code := some k3c3 }
def k3c4 : Code := { maxStack := 3, maxLocals := 3, code := prog_175_method_6_code, exceptionTable := #[], attributes := #[] }
def k3m4 : Method := { name := "first", desc := "()I", sig := { parameters := [], returnType := some .int }, accessFlags := 0, code := some k3c4 }
def k3c5 : Code := { maxStack := 5, maxLocals := 8, code := prog_175_method_7_code, exceptionTable := #[], attributes := #[] }
def k3m5 : Method := { name := "next", desc := "(I)I", sig := { parameters := [.int], returnType := some .int }, accessFlags := 0, code := some k3c5 }
/-- com/example/curtail/curtail/SlotSet -/
def k3 : Class := { plain "com/example/curtail/curtail/SlotSet" (some 0) with
  accessFlags := 48
  interfaces := #[]
  cf := some (fileOf pool3 14 #[] #[{ accessFlags := 0, nameIndex := 5, descriptorIndex := 31, attributes := #[] }, { accessFlags := 0, nameIndex := 35, descriptorIndex := 36, attributes := #[] }, { accessFlags := 0, nameIndex := 37, descriptorIndex := 38, attributes := #[] }, { accessFlags := 0, nameIndex := 39, descriptorIndex := 31, attributes := #[] }, { accessFlags := 0, nameIndex := 42, descriptorIndex := 43, attributes := #[] }, { accessFlags := 0, nameIndex := 44, descriptorIndex := 45, attributes := #[] }] 48 2 #[] #[{ accessFlags := 18, nameIndex := 17, descriptorIndex := 18, attributes := #[] }])
  fields := #[{ name := "levels", type := (.array (.array .long)), accessFlags := 18, slot := 0, constantValue := 0 }]
  methods := #[k3m0, k3m1, k3m2, k3m3, k3m4, k3m5]
  instanceTypes := #[(.array (.array .long))]
  staticTypes := #[]
  resolved := Array.replicate 48 none
  statics := none }

def pool4 : Array CpInfo := pool [(1, .class_ 2), (0, u "java/io/Serializable"), (0, .class_ 4), (0, u "java/lang/Object")] 2

/-- java/io/Serializable -/
def k4 : Class := { plain "java/io/Serializable" (some 0) with
  accessFlags := 1537
  interfaces := #[]
  cf := some (fileOf pool4 1 #[] #[] 1537 3 #[] #[])
  fields := #[]
  methods := #[]
  instanceTypes := #[]
  staticTypes := #[]
  resolved := Array.replicate 7 none
  statics := none }

def pool5 : Array CpInfo := pool [(2, .class_ 4), (1, u "java/lang/Object"), (0, u "<init>"), (0, u "()V"), (1, .class_ 10), (1, u "java/lang/Number"), (2, .class_ 14), (0, u "java/io/Serializable"), (0, u "serialVersionUID"), (0, u "J")] 20

def k5m0 : Method := { name := "<init>", desc := "()V", sig := { parameters := [], returnType := none }, accessFlags := 1, code := none }
/-- java/lang/Number -/
def k5 : Class := { plain "java/lang/Number" (some 0) with
  accessFlags := 1057
  interfaces := #[4]
  cf := some (fileOf pool5 8 #[] #[{ accessFlags := 1, nameIndex := 5, descriptorIndex := 6, attributes := #[] }] 1057 2 #[13] #[{ accessFlags := 26, nameIndex := 15, descriptorIndex := 16, attributes := #[] }])
  fields := #[{ name := "serialVersionUID", type := .long, accessFlags := 26, slot := 0, constantValue := 0 }]
  methods := #[k5m0]
  instanceTypes := #[]
  staticTypes := #[.long]
  resolved := Array.replicate 37 none
  statics := none }

def pool6 : Array CpInfo := pool [(1, .class_ 2), (0, u "java/lang/Comparable"), (0, .class_ 4), (0, u "java/lang/Object")] 7

/-- java/lang/Comparable -/
def k6 : Class := { plain "java/lang/Comparable" (some 0) with
  accessFlags := 1537
  interfaces := #[]
  cf := some (fileOf pool6 1 #[] #[] 1537 3 #[] #[])
  fields := #[]
  methods := #[]
  instanceTypes := #[]
  staticTypes := #[]
  resolved := Array.replicate 12 none
  statics := none }

def pool7 : Array CpInfo := pool [(1, .class_ 2), (0, u "java/lang/constant/Constable"), (0, .class_ 4), (0, u "java/lang/Object")] 6

/-- java/lang/constant/Constable -/
def k7 : Class := { plain "java/lang/constant/Constable" (some 0) with
  accessFlags := 1537
  interfaces := #[]
  cf := some (fileOf pool7 1 #[] #[] 1537 3 #[] #[])
  fields := #[]
  methods := #[]
  instanceTypes := #[]
  staticTypes := #[]
  resolved := Array.replicate 11 none
  statics := none }

def pool8 : Array CpInfo := pool [(1, .class_ 2), (0, u "java/lang/constant/ConstantDesc"), (0, .class_ 4), (0, u "java/lang/Object")] 32

/-- java/lang/constant/ConstantDesc -/
def k8 : Class := { plain "java/lang/constant/ConstantDesc" (some 0) with
  accessFlags := 1537
  interfaces := #[]
  cf := some (fileOf pool8 1 #[] #[] 1537 3 #[] #[])
  fields := #[]
  methods := #[]
  instanceTypes := #[]
  staticTypes := #[]
  resolved := Array.replicate 37 none
  statics := none }

def pool9 : Array CpInfo := pool [(1, .class_ 2), (0, u "java/lang/Long"), (15, .class_ 20), (1, u "java/lang/Integer"), (80, u "(J)I"), (133, .class_ 237), (1, u "java/lang/Long$LongCache"), (33, .class_ 272), (0, u "java/lang/Number"), (2, u "value"), (0, u "J"), (33, u "(I)I"), (0, .methodref 18 312), (0, .nameAndType 313 310), (0, u "numberOfTrailingZeros"), (47, u "TYPE"), (0, u "Ljava/lang/Class;"), (0, .class_ 364), (0, u "java/lang/Comparable"), (0, .class_ 366), (0, u "java/lang/constant/Constable"), (0, .class_ 368), (0, u "java/lang/constant/ConstantDesc"), (0, u "MIN_VALUE"), (1, u "MAX_VALUE"), (4, u "SIZE"), (0, u "I"), (1, u "BYTES"), (1, u "serialVersionUID")] 142

def k9c0 : Code := { maxStack := 4, maxLocals := 3, code := jdk_35_method_49_code, exceptionTable := #[], attributes := #[] }
def k9m0 : Method := { name := "numberOfTrailingZeros", desc := "(J)I", sig := { parameters := [.long], returnType := some .int }, accessFlags := 9, code := some k9c0 }
/-- java/lang/Long -/
def k9 : Class := { plain "java/lang/Long" (some 5) with
  accessFlags := 49
  interfaces := #[6, 7, 8]
  cf := some (fileOf pool9 1 #[.nestMembers #[235]] #[{ accessFlags := 9, nameIndex := 313, descriptorIndex := 101, attributes := #[] }] 49 271 #[363, 365, 367] #[{ accessFlags := 25, nameIndex := 369, descriptorIndex := 276, attributes := #[] }, { accessFlags := 25, nameIndex := 371, descriptorIndex := 276, attributes := #[] }, { accessFlags := 25, nameIndex := 361, descriptorIndex := 362, attributes := #[] }, { accessFlags := 18, nameIndex := 275, descriptorIndex := 276, attributes := #[] }, { accessFlags := 25, nameIndex := 376, descriptorIndex := 377, attributes := #[] }, { accessFlags := 25, nameIndex := 379, descriptorIndex := 377, attributes := #[] }, { accessFlags := 26, nameIndex := 381, descriptorIndex := 276, attributes := #[] }])
  fields := #[{ name := "MIN_VALUE", type := .long, accessFlags := 25, slot := 0, constantValue := 0 }, { name := "MAX_VALUE", type := .long, accessFlags := 25, slot := 1, constantValue := 0 }, { name := "TYPE", type := (.object "java/lang/Class"), accessFlags := 25, slot := 2, constantValue := 0 }, { name := "value", type := .long, accessFlags := 18, slot := 0, constantValue := 0 }, { name := "SIZE", type := .int, accessFlags := 25, slot := 3, constantValue := 0 }, { name := "BYTES", type := .int, accessFlags := 25, slot := 4, constantValue := 0 }, { name := "serialVersionUID", type := .long, accessFlags := 26, slot := 5, constantValue := 0 }]
  methods := #[k9m0]
  instanceTypes := #[.long]
  staticTypes := #[.long, .long, (.object "java/lang/Class"), .int, .int, .long]
  resolved := Array.replicate 524 none
  statics := none }

def pool10 : Array CpInfo := pool [(1, .class_ 2), (0, u "java/lang/Integer"), (16, u "digits"), (0, u "[C"), (33, u "(I)I"), (30, u "DigitOnes"), (0, u "[B"), (2, u "DigitTens"), (99, .class_ 190), (0, u "java/lang/Integer$IntegerCache"), (3, u "I"), (8, .class_ 204), (0, u "java/lang/Number"), (2, u "value"), (56, .integer 65536), (37, u "TYPE"), (0, u "Ljava/lang/Class;"), (0, .class_ 305), (0, u "java/lang/Comparable"), (0, .class_ 307), (0, u "java/lang/constant/Constable"), (0, .class_ 309), (0, u "java/lang/constant/ConstantDesc"), (0, u "MIN_VALUE"), (1, u "MAX_VALUE"), (3, u "SIZE"), (1, u "BYTES"), (1, u "serialVersionUID"), (0, u "J"), (84, u "numberOfTrailingZeros")] 46

def k10c0 : Code := { maxStack := 3, maxLocals := 2, code := jdk_33_method_48_code, exceptionTable := #[], attributes := #[] }
def k10m0 : Method := { name := "numberOfTrailingZeros", desc := "(I)I", sig := { parameters := [.int], returnType := some .int }, accessFlags := 9, code := some k10c0 }
/-- java/lang/Integer -/
def k10 : Class := { plain "java/lang/Integer" (some 5) with
  accessFlags := 49
  interfaces := #[6, 7, 8]
  cf := some (fileOf pool10 1 #[.nestMembers #[189]] #[{ accessFlags := 9, nameIndex := 406, descriptorIndex := 54, attributes := #[] }] 49 203 #[304, 306, 308] #[{ accessFlags := 25, nameIndex := 310, descriptorIndex := 194, attributes := #[] }, { accessFlags := 25, nameIndex := 312, descriptorIndex := 194, attributes := #[] }, { accessFlags := 25, nameIndex := 302, descriptorIndex := 303, attributes := #[] }, { accessFlags := 24, nameIndex := 19, descriptorIndex := 20, attributes := #[] }, { accessFlags := 24, nameIndex := 89, descriptorIndex := 86, attributes := #[] }, { accessFlags := 24, nameIndex := 85, descriptorIndex := 86, attributes := #[] }, { accessFlags := 18, nameIndex := 207, descriptorIndex := 194, attributes := #[] }, { accessFlags := 25, nameIndex := 316, descriptorIndex := 194, attributes := #[] }, { accessFlags := 25, nameIndex := 318, descriptorIndex := 194, attributes := #[] }, { accessFlags := 26, nameIndex := 320, descriptorIndex := 321, attributes := #[] }])
  fields := #[{ name := "MIN_VALUE", type := .int, accessFlags := 25, slot := 0, constantValue := 0 }, { name := "MAX_VALUE", type := .int, accessFlags := 25, slot := 1, constantValue := 0 }, { name := "TYPE", type := (.object "java/lang/Class"), accessFlags := 25, slot := 2, constantValue := 0 }, { name := "digits", type := (.array .char), accessFlags := 24, slot := 3, constantValue := 0 }, { name := "DigitTens", type := (.array .byte), accessFlags := 24, slot := 4, constantValue := 0 }, { name := "DigitOnes", type := (.array .byte), accessFlags := 24, slot := 5, constantValue := 0 }, { name := "value", type := .int, accessFlags := 18, slot := 0, constantValue := 0 }, { name := "SIZE", type := .int, accessFlags := 25, slot := 6, constantValue := 0 }, { name := "BYTES", type := .int, accessFlags := 25, slot := 7, constantValue := 0 }, { name := "serialVersionUID", type := .long, accessFlags := 26, slot := 8, constantValue := 0 }]
  methods := #[k10m0]
  instanceTypes := #[.int]
  staticTypes := #[.int, .int, (.object "java/lang/Class"), (.array .char), (.array .byte), (.array .byte), .int, .int, .long]
  resolved := Array.replicate 453 none
  statics := none }

def pool11 : Array CpInfo := pool [(1, u "java/lang/Cloneable"), (0, .class_ 1), (0, u "java/lang/Object"), (0, .class_ 3)] 3

/-- java/lang/Cloneable -/
def k11 : Class := { plain "java/lang/Cloneable" (some 0) with
  accessFlags := 1537
  interfaces := #[]
  cf := some (fileOf pool11 2 #[] #[] 1537 4 #[] #[])
  fields := #[]
  methods := #[]
  instanceTypes := #[]
  staticTypes := #[]
  resolved := Array.replicate 8 none
  statics := none }

/-- the primitive byte -/
def k12 : Class := { plain "byte" none with kind := .primitive 'B', accessFlags := 0x411 }
/-- [B -/
def k13 : Class := { plain "[B" (some 0) with kind := .array 12 .byte, interfaces := #[11, 4], accessFlags := 1041 }

/-- the primitive int -/
def k14 : Class := { plain "int" none with kind := .primitive 'I', accessFlags := 0x411 }
/-- [I -/
def k15 : Class := { plain "[I" (some 0) with kind := .array 14 .int, interfaces := #[11, 4], accessFlags := 1041 }

/-- the primitive long -/
def k16 : Class := { plain "long" none with kind := .primitive 'J', accessFlags := 0x411 }
/-- [J -/
def k17 : Class := { plain "[J" (some 0) with kind := .array 16 .long, interfaces := #[11, 4], accessFlags := 1041 }

/-- [[J -/
def k18 : Class := { plain "[[J" (some 0) with kind := .array 17 (.array .long), interfaces := #[11, 4], accessFlags := 1041 }

def heap : Heap := #[{ cls := 18, slots := #[.null], vm := .none }]
def classes : Array Class := #[k0, k1, k2, k3, k4, k5, k6, k7, k8, k9, k10, k11, k12, k13, k14, k15, k16, k17, k18]
def interned : List (Array UInt16 × Addr) := []
def slotsUsed : Nat := 1
def theMethod : MethodId := ⟨1, 1⟩
def args0 : Array Value := #[.int 5, .int 7, .int 1, .int 2, .int 3, .int 4]
def aboutOver (below : List Frame) : State where
  vm := { classes := classes, interned := interned.toArray }
  heap := heap
  slotsUsed := slotsUsed
  threads := #[{ frames := .invoking theMethod args0 :: below }]
def below0 : List Frame := [.native { method := ⟨0, 0⟩, args := #[] }]
def about1 : State := aboutOver below0
def p0 : Program := .bare "" "" ""
def e0 : Env := launch0.env 0 0 0
theorem w_frames : about1.frames = Frame.invoking theMethod args0 :: below0 := rfl
set_option maxRecDepth 65536 in
theorem w_args : argsFit about1.vm theMethod args0 = true := by decide +kernel
set_option maxRecDepth 65536 in
theorem w_heap : heapFits about1 = true := by decide +kernel
set_option maxRecDepth 65536 in
theorem w_runnable : about1.curStatus? = some .runnable := by decide +kernel
set_option maxRecDepth 65536 in
theorem w_alone : about1.alone = true := by decide +kernel
set_option maxRecDepth 65536 in
theorem w_named : about1.methodNamed? x = some theMethod := by decide +kernel
set_option maxRecDepth 65536 in
theorem w_hears : about1.hears theMethod below0 = true := by decide +kernel
set_option maxRecDepth 65536 in
theorem w_ripe : about1.ripe theMethod args0 below0 = true := by decide +kernel
theorem w_running : about1.status = .running := rfl
set_option maxRecDepth 65536 in
theorem w_room : about1.hasRoom e0.platform room_1 = true :=
  launch0.hasRoom_least _ room_1 (by decide +kernel) (by decide +kernel) (by decide +kernel) (by decide +kernel) (by decide +kernel) (by decide +kernel)
theorem allAtoms_all (ts : List Jvm.Cond) (a : Array Jvm.Value) (st : Jvm.State) : (allAtoms ts).before a st = ts.all (fun c => c.before a st) := by
  induction ts with
  | nil => rfl
  | cons c t ih =>
    show (Jvm.Cond.and c (allAtoms t)).before a st = _
    rw [Jvm.Cond.before_and, ih, List.all_cons]
def words1 : List Jvm.Cond := Jvm.Cond.code x code maxLocals ret :: tables_1
/-- a 'code' word, met by the world's own term for the bytes: nothing is compared byte by byte -/
theorem code_word {y : MethodName} {bytes : ByteArray} {mx : Nat} {rt : Option FieldType} {a : Array Value} {s : State} {m : MethodId} {meth : Method} {c : Code} (h1 : s.methodNamed? y = some m) (h2 : s.vm.method? m = some meth) (h3 : meth.code = some c) (h4 : c.code = bytes)
    (h5 : (c.maxLocals == mx && c.exceptionTable.isEmpty && decide (c.maxStack ≤ mostOperands) && decide (meth.sig.returnType = rt) && !meth.locks && decide (parseMethodDescriptor y.desc = some meth.sig)) = true) : (Jvm.Cond.code y bytes mx rt).before a s = true := by
  simp only [Bool.and_eq_true, beq_iff_eq, Bool.not_eq_true', decide_eq_true_eq] at h5
  obtain ⟨⟨⟨⟨⟨g1, g2⟩, g3⟩, g4⟩, g5⟩, g6⟩ := h5
  simp [Cond.before, Cond.holds, Cond.value, h1, h2, h3, h4, g1, g2, g3, g4, g5, g6]
def isCode : Jvm.Cond → Bool
  | .code _ _ _ _ => true
  | _ => false
theorem all_split {L : List Jvm.Cond} {P : Jvm.Cond → Bool} (h1 : L.all (fun c => isCode c || P c) = true) (h2 : ∀ c ∈ L.filter isCode, P c = true) : L.all P = true := by
  refine List.all_eq_true.mpr fun c hc => ?_
  have h := List.all_eq_true.mp h1 c hc
  rcases Bool.eq_false_or_eq_true (isCode c) with hi | hi
  · exact h2 c (List.mem_filter.mpr ⟨hc, hi⟩)
  · simpa [hi] using h
set_option maxRecDepth 65536 in
theorem w_c0 : (Jvm.Cond.code x code maxLocals ret).before args0 about1 = true := code_word (m := ⟨1, 1⟩) (meth := k1m1) (c := k1c1) (by decide +kernel) rfl rfl rfl (by decide +kernel)
set_option maxRecDepth 65536 in
theorem w_c1 : (Jvm.Cond.code ({ cls := "java/lang/Math", name := "min", desc := "(II)I" } : Jvm.MethodName) jdk_29_method_69_code (2 : Nat) (Option.some Jvm.ClassFile.FieldType.int)).before args0 about1 = true := code_word (m := ⟨2, 2⟩) (meth := k2m2) (c := k2c2) (by decide +kernel) rfl rfl rfl (by decide +kernel)
set_option maxRecDepth 65536 in
theorem w_c2 : (Jvm.Cond.code ({ cls := "com/example/curtail/curtail/SlotSet", name := "<init>", desc := "(I)V" } : Jvm.MethodName) prog_175_method_1_code (5 : Nat) (Option.none : Option Jvm.ClassFile.FieldType)).before args0 about1 = true := code_word (m := ⟨3, 0⟩) (meth := k3m0) (c := k3c0) (by decide +kernel) rfl rfl rfl (by decide +kernel)
set_option maxRecDepth 65536 in
theorem w_c3 : (Jvm.Cond.code ({ cls := "java/lang/Object", name := "<init>", desc := "()V" } : Jvm.MethodName) object_method_1_code (1 : Nat) (Option.none : Option Jvm.ClassFile.FieldType)).before args0 about1 = true := code_word (m := ⟨0, 0⟩) (meth := k0m0) (c := k0c0) (by decide +kernel) rfl rfl rfl (by decide +kernel)
set_option maxRecDepth 65536 in
theorem w_c4 : (Jvm.Cond.code ({ cls := "java/lang/Math", name := "max", desc := "(II)I" } : Jvm.MethodName) jdk_29_method_65_code (2 : Nat) (Option.some Jvm.ClassFile.FieldType.int)).before args0 about1 = true := code_word (m := ⟨2, 1⟩) (meth := k2m1) (c := k2c1) (by decide +kernel) rfl rfl rfl (by decide +kernel)
set_option maxRecDepth 65536 in
theorem w_c5 : (Jvm.Cond.code ({ cls := "com/example/curtail/curtail/SlotSet", name := "add", desc := "(I)V" } : Jvm.MethodName) prog_175_method_4_code (9 : Nat) (Option.none : Option Jvm.ClassFile.FieldType)).before args0 about1 = true := code_word (m := ⟨3, 3⟩) (meth := k3m3) (c := k3c3) (by decide +kernel) rfl rfl rfl (by decide +kernel)
set_option maxRecDepth 65536 in
theorem w_c6 : (Jvm.Cond.code ({ cls := "com/example/curtail/curtail/SlotSet", name := "isEmpty", desc := "()Z" } : Jvm.MethodName) prog_175_method_2_code (1 : Nat) (Option.some Jvm.ClassFile.FieldType.boolean)).before args0 about1 = true := code_word (m := ⟨3, 1⟩) (meth := k3m1) (c := k3c1) (by decide +kernel) rfl rfl rfl (by decide +kernel)
set_option maxRecDepth 65536 in
theorem w_c7 : (Jvm.Cond.code ({ cls := "com/example/curtail/curtail/SlotSet", name := "contains", desc := "(I)Z" } : Jvm.MethodName) prog_175_method_3_code (2 : Nat) (Option.some Jvm.ClassFile.FieldType.boolean)).before args0 about1 = true := code_word (m := ⟨3, 2⟩) (meth := k3m2) (c := k3c2) (by decide +kernel) rfl rfl rfl (by decide +kernel)
set_option maxRecDepth 65536 in
theorem w_c8 : (Jvm.Cond.code ({ cls := "com/example/curtail/curtail/SlotSet", name := "first", desc := "()I" } : Jvm.MethodName) prog_175_method_6_code (3 : Nat) (Option.some Jvm.ClassFile.FieldType.int)).before args0 about1 = true := code_word (m := ⟨3, 4⟩) (meth := k3m4) (c := k3c4) (by decide +kernel) rfl rfl rfl (by decide +kernel)
set_option maxRecDepth 65536 in
theorem w_c9 : (Jvm.Cond.code ({ cls := "java/lang/Long", name := "numberOfTrailingZeros", desc := "(J)I" } : Jvm.MethodName) jdk_35_method_49_code (3 : Nat) (Option.some Jvm.ClassFile.FieldType.int)).before args0 about1 = true := code_word (m := ⟨9, 0⟩) (meth := k9m0) (c := k9c0) (by decide +kernel) rfl rfl rfl (by decide +kernel)
set_option maxRecDepth 65536 in
theorem w_c10 : (Jvm.Cond.code ({ cls := "java/lang/Integer", name := "numberOfTrailingZeros", desc := "(I)I" } : Jvm.MethodName) jdk_33_method_48_code (2 : Nat) (Option.some Jvm.ClassFile.FieldType.int)).before args0 about1 = true := code_word (m := ⟨10, 0⟩) (meth := k10m0) (c := k10c0) (by decide +kernel) rfl rfl rfl (by decide +kernel)
set_option maxRecDepth 65536 in
theorem w_c11 : (Jvm.Cond.code ({ cls := "com/example/curtail/curtail/SlotSet", name := "next", desc := "(I)I" } : Jvm.MethodName) prog_175_method_7_code (8 : Nat) (Option.some Jvm.ClassFile.FieldType.int)).before args0 about1 = true := code_word (m := ⟨3, 5⟩) (meth := k3m5) (c := k3c5) (by decide +kernel) rfl rfl rfl (by decide +kernel)
def codes1 : List Jvm.Cond := [Jvm.Cond.code x code maxLocals ret, Jvm.Cond.code ({ cls := "java/lang/Math", name := "min", desc := "(II)I" } : Jvm.MethodName) jdk_29_method_69_code (2 : Nat) (Option.some Jvm.ClassFile.FieldType.int), Jvm.Cond.code ({ cls := "com/example/curtail/curtail/SlotSet", name := "<init>", desc := "(I)V" } : Jvm.MethodName) prog_175_method_1_code (5 : Nat) (Option.none : Option Jvm.ClassFile.FieldType), Jvm.Cond.code ({ cls := "java/lang/Object", name := "<init>", desc := "()V" } : Jvm.MethodName) object_method_1_code (1 : Nat) (Option.none : Option Jvm.ClassFile.FieldType), Jvm.Cond.code ({ cls := "java/lang/Math", name := "max", desc := "(II)I" } : Jvm.MethodName) jdk_29_method_65_code (2 : Nat) (Option.some Jvm.ClassFile.FieldType.int), Jvm.Cond.code ({ cls := "com/example/curtail/curtail/SlotSet", name := "add", desc := "(I)V" } : Jvm.MethodName) prog_175_method_4_code (9 : Nat) (Option.none : Option Jvm.ClassFile.FieldType), Jvm.Cond.code ({ cls := "com/example/curtail/curtail/SlotSet", name := "isEmpty", desc := "()Z" } : Jvm.MethodName) prog_175_method_2_code (1 : Nat) (Option.some Jvm.ClassFile.FieldType.boolean), Jvm.Cond.code ({ cls := "com/example/curtail/curtail/SlotSet", name := "contains", desc := "(I)Z" } : Jvm.MethodName) prog_175_method_3_code (2 : Nat) (Option.some Jvm.ClassFile.FieldType.boolean), Jvm.Cond.code ({ cls := "com/example/curtail/curtail/SlotSet", name := "first", desc := "()I" } : Jvm.MethodName) prog_175_method_6_code (3 : Nat) (Option.some Jvm.ClassFile.FieldType.int), Jvm.Cond.code ({ cls := "java/lang/Long", name := "numberOfTrailingZeros", desc := "(J)I" } : Jvm.MethodName) jdk_35_method_49_code (3 : Nat) (Option.some Jvm.ClassFile.FieldType.int), Jvm.Cond.code ({ cls := "java/lang/Integer", name := "numberOfTrailingZeros", desc := "(I)I" } : Jvm.MethodName) jdk_33_method_48_code (2 : Nat) (Option.some Jvm.ClassFile.FieldType.int), Jvm.Cond.code ({ cls := "com/example/curtail/curtail/SlotSet", name := "next", desc := "(I)I" } : Jvm.MethodName) prog_175_method_7_code (8 : Nat) (Option.some Jvm.ClassFile.FieldType.int)]
set_option maxRecDepth 65536 in
theorem codes_eq : words1.filter isCode = codes1 := rfl
theorem w_codes : ∀ c ∈ words1.filter isCode, c.before args0 about1 = true := by
  rw [codes_eq]
  intro c hc
  simp only [codes1, List.mem_cons, List.not_mem_nil, or_false] at hc
  rcases hc with rfl | rfl | rfl | rfl | rfl | rfl | rfl | rfl | rfl | rfl | rfl | rfl
  · exact w_c0
  · exact w_c1
  · exact w_c2
  · exact w_c3
  · exact w_c4
  · exact w_c5
  · exact w_c6
  · exact w_c7
  · exact w_c8
  · exact w_c9
  · exact w_c10
  · exact w_c11
set_option maxRecDepth 65536 in
theorem w_t1 : (words1.take 24).all (fun c => isCode c || c.before args0 about1) = true := by decide +kernel
set_option maxRecDepth 65536 in
theorem w_t2 : ((words1.drop 24).take 24).all (fun c => isCode c || c.before args0 about1) = true := by decide +kernel
set_option maxRecDepth 65536 in
theorem w_t3 : ((words1.drop 24).drop 24).all (fun c => isCode c || c.before args0 about1) = true := by decide +kernel
theorem w_tables : (allAtoms (Jvm.Cond.code x code maxLocals ret :: tables_1)).before args0 about1 = true := by
  rw [allAtoms_all]
  show words1.all (fun c => c.before args0 about1) = true
  refine all_split ?_ w_codes
  rw [← List.take_append_drop 24 words1, List.all_append, w_t1, ← List.take_append_drop 24 (words1.drop 24), List.all_append, w_t2, w_t3]
  rfl
set_option maxRecDepth 65536 in
theorem w_case : (Jvm.Cond.and given_1 narrow_1).before args0 about1 = true := by decide +kernel
theorem w_applies : (headSpec (Jvm.Cond.code x code maxLocals ret :: tables_1) room_1).applies x e0.platform about1 = true :=
  (Spec.applies_iff w_frames).mpr ⟨w_running, w_runnable, w_alone, w_named, w_hears, w_ripe, w_room, w_tables⟩
theorem atStart : AtStart classFile x code maxLocals ret World_1 tables_1 room_1 Calls_1 rest_1 Pre_1 launch0 p0 e0 about1 theMethod args0 below0 :=
  ⟨lists_1, trivial, launch0.admits_env _ _ _, launch0.least_env, fairChoices_fair.cas, fairChoices_fair.clock, w_frames, w_args, w_heap, w_applies, trivial, trivial, w_case⟩
end start1
theorem witness_1 : WitnessClaimed_1 := ⟨start1.p0, start1.e0, start1.about1, start1.theMethod, start1.args0, start1.below0, start1.atStart⟩
end Jvm.Pilot.@@N@@
