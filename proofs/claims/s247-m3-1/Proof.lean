import JvmDerived
import JvmDerived.Pilot.@@N@@Statement
import JvmDerived.Pilot.@@N@@Code
set_option linter.unusedVariables false
set_option linter.unusedSimpArgs false
namespace Jvm.OwnWP
open Sem ClassFile Op Lib Jvm.Stand Jvm.Free Jvm.LawKit Jvm.RoadKit
/-- the fixed things of a body's walk -/
abbrev Cx := Program × Launch × Env × Room × State × MethodId × Array Value × List Frame × Method × Code × State × Nat × (Option Value → Heap → Prop) × (Outcome → State → List Loc → Prop)
def Cx.p (k : Cx) : Program := k.1
def Cx.l (k : Cx) : Launch := k.2.1
def Cx.e (k : Cx) : Env := k.2.2.1
def Cx.R (k : Cx) : Room := k.2.2.2.1
def Cx.s (k : Cx) : State := k.2.2.2.2.1
def Cx.m (k : Cx) : MethodId := k.2.2.2.2.2.1
def Cx.args (k : Cx) : Array Value := k.2.2.2.2.2.2.1
def Cx.below (k : Cx) : List Frame := k.2.2.2.2.2.2.2.1
def Cx.meth (k : Cx) : Method := k.2.2.2.2.2.2.2.2.1
def Cx.c (k : Cx) : Code := k.2.2.2.2.2.2.2.2.2.1
def Cx.Z (k : Cx) : State := k.2.2.2.2.2.2.2.2.2.2.1
def Cx.n0 (k : Cx) : Nat := k.2.2.2.2.2.2.2.2.2.2.2.1
def Cx.Q (k : Cx) : Option Value → Heap → Prop := k.2.2.2.2.2.2.2.2.2.2.2.2.1
/-- what the body's end must say of the frame -/
def Cx.Fin (k : Cx) : Outcome → State → List Loc → Prop := k.2.2.2.2.2.2.2.2.2.2.2.2.2
def Cx.St (k : Cx) (T : State) (locs : List Loc) (cells slots : Nat) : Prop := Stand k.p k.l k.e k.R k.s k.m k.args k.below k.meth k.c T locs cells slots
def Cx.Go (k : Cx) (a t : State) : Prop := Steps k.p.tables k.e k.below a t
def Cx.End (k : Cx) (a : State) : Prop := ∃ s₂ o, Steps k.p.tables k.e k.below a s₂ ∧ s₂.status = .running ∧ Ended s₂ k.below o ∧ ∃ v L, o = .returned v ∧ (k.Q v s₂.heap ∧ Fr k.n0 L) ∧ k.Fin o s₂ L
/-- from here the body runs to its end and leaves what Q says -/
def WP (k : Cx) (h : Heap) (cells slots pc : Nat) (ls : List Slot) (st : List Value) : Prop :=
  ∀ (T : State) (locs : List Loc), k.St T locs cells slots → T.heap = h → Fr k.n0 locs → k.End (T.setTop (mkF k.m pc ls.toArray st))
def Ok (k : Cx) (l : Launch) (Z : State) (n0 : Nat) (rm : Room) (bytes : ByteArray) (maxL : Nat) (y : MethodName) (ret : Option FieldType) (Q : Option Value → Heap → Prop) : Prop :=
  k.p.tables.exec = Jvm.exec ∧ Z.Warmed39 k.s.vm ∧ k.R = rm ∧ k.c.code = bytes ∧ k.c.maxLocals = maxL ∧ k.s.vm.findClass y.cls = some k.m.cls ∧ k.meth.sig.returnType = ret ∧ k.meth.locks = false ∧ k.meth.name = y.name ∧ k.l = l ∧ k.Z = Z ∧ k.n0 = n0 ∧ k.Q = Q ∧ ∀ v s₂ L, Q v s₂.heap → FrameEnd k.s (.returned v) s₂ L k.R.cells k.R.slots → k.Fin (.returned v) s₂ L
section Base
variable {k : Cx} {l : Launch} {Z : State} {n0 : Nat} {rm : Room} {bytes : ByteArray} {maxL : Nat} {y : MethodName} {ret : Option FieldType} {Q : Option Value → Heap → Prop}
theorem Ok.hx (K : Ok k l Z n0 rm bytes maxL y ret Q) : k.p.tables.exec = Jvm.exec := K.1
theorem Ok.hZ (K : Ok k l Z n0 rm bytes maxL y ret Q) : Z.Warmed39 k.s.vm := K.2.1
theorem Ok.hR (K : Ok k l Z n0 rm bytes maxL y ret Q) : k.R = rm := K.2.2.1
theorem Ok.hby (K : Ok k l Z n0 rm bytes maxL y ret Q) : k.c.code = bytes := K.2.2.2.1
theorem Ok.hml (K : Ok k l Z n0 rm bytes maxL y ret Q) : k.c.maxLocals = maxL := K.2.2.2.2.1
theorem Ok.hown (K : Ok k l Z n0 rm bytes maxL y ret Q) : k.s.vm.findClass y.cls = some k.m.cls := K.2.2.2.2.2.1
theorem Ok.hret (K : Ok k l Z n0 rm bytes maxL y ret Q) : k.meth.sig.returnType = ret := K.2.2.2.2.2.2.1
theorem Ok.hlk (K : Ok k l Z n0 rm bytes maxL y ret Q) : k.meth.locks = false := K.2.2.2.2.2.2.2.1
theorem Ok.hnm (K : Ok k l Z n0 rm bytes maxL y ret Q) : k.meth.name = y.name := K.2.2.2.2.2.2.2.2.1
theorem Ok.hl (K : Ok k l Z n0 rm bytes maxL y ret Q) : k.l = l := K.2.2.2.2.2.2.2.2.2.1
theorem Ok.hZe (K : Ok k l Z n0 rm bytes maxL y ret Q) : k.Z = Z := K.2.2.2.2.2.2.2.2.2.2.1
theorem Ok.hn0 (K : Ok k l Z n0 rm bytes maxL y ret Q) : k.n0 = n0 := K.2.2.2.2.2.2.2.2.2.2.2.1
theorem Ok.hQ (K : Ok k l Z n0 rm bytes maxL y ret Q) : k.Q = Q := K.2.2.2.2.2.2.2.2.2.2.2.2.1
theorem Ok.hfin (K : Ok k l Z n0 rm bytes maxL y ret Q) : ∀ v s₂ L, Q v s₂.heap → FrameEnd k.s (.returned v) s₂ L k.R.cells k.R.slots → k.Fin (.returned v) s₂ L := K.2.2.2.2.2.2.2.2.2.2.2.2.2
theorem Ok.dec (K : Ok k l Z n0 rm bytes maxL y ret Q) {pc : Nat} {r : Except DecodeError (Instr × Nat)} (h : decode bytes pc = r) : decode k.c.code pc = r := hb K.hby h
theorem End.back {a b : State} (st : ∀ t, k.Go b t → k.Go a t) (w : k.End b) : k.End a := by
  obtain ⟨s2, o, h1, r⟩ := w
  exact ⟨s2, o, st _ h1, r⟩
theorem arrGet {ls : List Slot} {i : Nat} {o : Slot} (h : ls[i]? = some o) : ls.toArray[i]? = some o := by simpa using h
variable {h : Heap} {cells slots pc : Nat} {ls : List Slot} {st : List Value}
theorem WP.plain {pc' : Nat} {ls' : List Slot} {st' : List Value} (hs : ∀ T, At T k.m k.c k.below → ∀ t, Steps k.p.tables k.e k.below (T.setTop (mkF k.m pc' ls'.toArray st')) t → Steps k.p.tables k.e k.below (T.setTop (mkF k.m pc ls.toArray st)) t)
    (w : WP k h cells slots pc' ls' st') : WP k h cells slots pc ls st := fun T locs X e N => End.back (fun t q => hs T X.here t q) (w T locs X e N)
theorem WP.mono {cells' slots' : Nat} (hc : cells ≤ cells') (hs : slots ≤ slots') (w : WP k h cells' slots' pc ls st) : WP k h cells slots pc ls st := fun T locs X e N =>
  w T locs { X with same := X.same.mono hc hs } e N
theorem WP.cast {pc' : Nat} {ls' : List Slot} {st' : List Value} {h' : Heap} (w : WP k h' cells slots pc' ls' st') (e1 : h' = h) (e2 : pc' = pc) (e3 : ls' = ls) (e4 : st' = st) : WP k h cells slots pc ls st := by subst e1 e2 e3 e4; exact w
/-- the contract of a body, at given arguments and a given heap -/
def Con (l : Launch) (Z : State) (y : MethodName) (bytes : ByteArray) (maxL : Nat) (ret : Option FieldType) (rm : Room) (n0 : Nat) (as : Array Value) (h0 : Heap) (Q : Option Value → Heap → Prop) : Prop :=
  ∀ ws, MetFree l y (head1 (Jvm.Cond.code y bytes maxL ret :: ws) rm) (fun a U => a = as ∧ Z.Warmed39 U.vm ∧ U.heap = h0) (fun _ _ _ _ _ => True) (fun _ U o U' => ∃ v L, o = .returned v ∧ (Q v U'.heap ∧ Fr n0 L) ∧ FrameEnd U o U' L rm.cells rm.slots)
def R1 (Q : Value → Heap → Prop) : Option Value → Heap → Prop := fun v h => ∃ r, v = some r ∧ Q r h
def R0 (Q : Heap → Prop) : Option Value → Heap → Prop := fun v h => v = none ∧ Q h
theorem Con.of {as : Array Value} {h0 : Heap} (hp : plainFor y = true) (he : ∀ m, entryFrame m as maxL = mkF m 0 ls.toArray [])
    (hwp : ∀ k, Ok k l Z n0 rm bytes maxL y ret Q → WP k h0 0 0 0 ls []) : Con l Z y bytes maxL ret rm n0 as h0 Q := by
  intro ws
  refine MetFree.of_bodySF hp hisR ?_
  intro p e s m args below meth c s₁ Bd hml0 hP hK
  obtain ⟨rfl, hZ, hh⟩ := hP
  have X0 : Stand p l e rm s m args below meth c s₁ [] 0 0 := Stand.of_body Bd
  have e0 : s₁.heap = h0 := by rw [← hh, Bd.state]; rfl
  have w := hwp (p, l, e, rm, s, m, args, below, meth, c, Z, n0, Q, fun o s₂ L => FrameEnd s o s₂ L rm.cells rm.slots) ⟨Bd.exec, hZ, rfl, Bd.bytes, hml0, findClass_of_methodNamed Bd.named, Bd.returns, Bd.notSynchronized, (name_of_methodNamed Bd.named Bd.method).1, rfl, rfl, rfl, rfl, fun _ _ _ _ q => q⟩ s₁ [] X0 e0 (Fr.nil n0)
  obtain ⟨s2, o, h1, h2, h3, h4⟩ := w
  exact ⟨s2, o, castTop (he m) h1, h2, h3, h4⟩
theorem Con.mono {as : Array Value} {h0 : Heap} {Q' : Option Value → Heap → Prop} (C : Con l Z y bytes maxL ret rm n0 as h0 Q) (hq : ∀ v h, Q v h → Q' v h) : Con l Z y bytes maxL ret rm n0 as h0 Q' := by
  intro ws p e ha hc hk s m args below hf happ hP hK
  obtain ⟨n, o, h1, h2, h3, v, L, e1, q, r⟩ := C ws p e ha hc hk s m args below hf happ hP hK
  exact ⟨n, o, h1, h2, h3, v, L, e1, ⟨hq _ _ q.1, q.2⟩, r⟩
end Base
section Plain
variable {k : Cx} {l : Launch} {Z : State} {n0 : Nat} {rm : Room} {bytes : ByteArray} {maxL : Nat} {y : MethodName} {ret : Option FieldType} {Q : Option Value → Heap → Prop} {h : Heap} {cells slots pc : Nat} {ls : List Slot} {st : List Value}

theorem WP.iload (K : Ok k l Z n0 rm bytes maxL y ret Q) {i : Nat} {v : Int32} (pc' : Nat) (hd : decode bytes pc = .ok (.iload i, 2)) (hp : pc + 2 = pc') (hl : ls[i]? = some (.val (.int v))) (w : WP k h cells slots pc' ls (.int v :: st)) : WP k h cells slots pc ls st := by
  subst hp; exact w.plain fun T A t q => XS.iload A K.hx rfl (K.dec hd) (arrGet hl) q
theorem WP.iloadN (K : Ok k l Z n0 rm bytes maxL y ret Q) {i : Fin 4} {v : Int32} (pc' : Nat) (hd : decode bytes pc = .ok (.iload_n i, 1)) (hp : pc + 1 = pc') (hl : ls[i.val]? = some (.val (.int v))) (w : WP k h cells slots pc' ls (.int v :: st)) : WP k h cells slots pc ls st := by
  subst hp; exact w.plain fun T A t q => XS.iloadN A K.hx rfl (K.dec hd) (arrGet hl) q
theorem WP.lload (K : Ok k l Z n0 rm bytes maxL y ret Q) {i : Nat} {v : Int64} (pc' : Nat) (hd : decode bytes pc = .ok (.lload i, 2)) (hp : pc + 2 = pc') (hl : ls[i]? = some (.val (.long v))) (w : WP k h cells slots pc' ls (.long v :: st)) : WP k h cells slots pc ls st := by
  subst hp; exact w.plain fun T A t q => XT.lload A K.hx rfl (K.dec hd) (arrGet hl) q
theorem WP.lloadN (K : Ok k l Z n0 rm bytes maxL y ret Q) {i : Fin 4} {v : Int64} (pc' : Nat) (hd : decode bytes pc = .ok (.lload_n i, 1)) (hp : pc + 1 = pc') (hl : ls[i.val]? = some (.val (.long v))) (w : WP k h cells slots pc' ls (.long v :: st)) : WP k h cells slots pc ls st := by
  subst hp; exact w.plain fun T A t q => XT.lloadN A K.hx rfl (K.dec hd) (arrGet hl) q
theorem WP.aload (K : Ok k l Z n0 rm bytes maxL y ret Q) {i : Nat} {v : Value} (pc' : Nat) (hd : decode bytes pc = .ok (.aload i, 2)) (hp : pc + 2 = pc') (hl : ls[i]? = some (.val (v))) (hv : v.isRef = true) (w : WP k h cells slots pc' ls (v :: st)) : WP k h cells slots pc ls st := by
  subst hp; exact w.plain fun T A t q => XS.aload A K.hx rfl (K.dec hd) (arrGet hl) hv q
theorem WP.aloadN (K : Ok k l Z n0 rm bytes maxL y ret Q) {i : Fin 4} {v : Value} (pc' : Nat) (hd : decode bytes pc = .ok (.aload_n i, 1)) (hp : pc + 1 = pc') (hl : ls[i.val]? = some (.val (v))) (hv : v.isRef = true) (w : WP k h cells slots pc' ls (v :: st)) : WP k h cells slots pc ls st := by
  subst hp; exact w.plain fun T A t q => XS.aloadN A K.hx rfl (K.dec hd) (arrGet hl) hv q
theorem WP.istore (K : Ok k l Z n0 rm bytes maxL y ret Q) {i : Nat} {v : Int32} (pc' : Nat) (ls' : List Slot) (hd : decode bytes pc = .ok (.istore i, 2)) (hp : pc + 2 = pc') (hl : storeLocals ls.toArray i (.int v) = some ls'.toArray) (w : WP k h cells slots pc' ls' st) : WP k h cells slots pc ls (.int v :: st) := by
  subst hp; exact w.plain fun T A t q => XS.istore A K.hx rfl (K.dec hd) rfl hl q
theorem WP.istoreN (K : Ok k l Z n0 rm bytes maxL y ret Q) {i : Fin 4} {v : Int32} (pc' : Nat) (ls' : List Slot) (hd : decode bytes pc = .ok (.istore_n i, 1)) (hp : pc + 1 = pc') (hl : storeLocals ls.toArray i.val (.int v) = some ls'.toArray) (w : WP k h cells slots pc' ls' st) : WP k h cells slots pc ls (.int v :: st) := by
  subst hp; exact w.plain fun T A t q => XS.istoreN A K.hx rfl (K.dec hd) rfl hl q
theorem WP.lstore (K : Ok k l Z n0 rm bytes maxL y ret Q) {i : Nat} {v : Int64} (pc' : Nat) (ls' : List Slot) (hd : decode bytes pc = .ok (.lstore i, 2)) (hp : pc + 2 = pc') (hl : storeLocals ls.toArray i (.long v) = some ls'.toArray) (w : WP k h cells slots pc' ls' st) : WP k h cells slots pc ls (.long v :: st) := by
  subst hp; exact w.plain fun T A t q => XT.lstore A K.hx rfl (K.dec hd) rfl hl q
theorem WP.lstoreN (K : Ok k l Z n0 rm bytes maxL y ret Q) {i : Fin 4} {v : Int64} (pc' : Nat) (ls' : List Slot) (hd : decode bytes pc = .ok (.lstore_n i, 1)) (hp : pc + 1 = pc') (hl : storeLocals ls.toArray i.val (.long v) = some ls'.toArray) (w : WP k h cells slots pc' ls' st) : WP k h cells slots pc ls (.long v :: st) := by
  subst hp; exact w.plain fun T A t q => XT.lstoreN A K.hx rfl (K.dec hd) rfl hl q
theorem WP.astore (K : Ok k l Z n0 rm bytes maxL y ret Q) {i : Nat} {v : Value} (pc' : Nat) (ls' : List Slot) (hd : decode bytes pc = .ok (.astore i, 2)) (hp : pc + 2 = pc') (hv : v.isRef = true) (hl : storeLocals ls.toArray i (v) = some ls'.toArray) (w : WP k h cells slots pc' ls' st) : WP k h cells slots pc ls (v :: st) := by
  subst hp; exact w.plain fun T A t q => XS.astore A K.hx rfl (K.dec hd) rfl hv hl q
theorem WP.astoreN (K : Ok k l Z n0 rm bytes maxL y ret Q) {i : Fin 4} {v : Value} (pc' : Nat) (ls' : List Slot) (hd : decode bytes pc = .ok (.astore_n i, 1)) (hp : pc + 1 = pc') (hv : v.isRef = true) (hl : storeLocals ls.toArray i.val (v) = some ls'.toArray) (w : WP k h cells slots pc' ls' st) : WP k h cells slots pc ls (v :: st) := by
  subst hp; exact w.plain fun T A t q => XS.astoreN A K.hx rfl (K.dec hd) rfl hv hl q
theorem WP.iconst (K : Ok k l Z n0 rm bytes maxL y ret Q) {i : Int} (v : Int32) (pc' : Nat) (hd : decode bytes pc = .ok (.iconst i, 1)) (hp : pc + 1 = pc') (hv : Int32.ofInt i = v) (w : WP k h cells slots pc' ls (.int v :: st)) : WP k h cells slots pc ls st := by
  subst hp; exact w.plain fun T A t q => XT.iconstV A K.hx rfl v (K.dec hd) hv q
theorem WP.bipush (K : Ok k l Z n0 rm bytes maxL y ret Q) {i : Int} (v : Int32) (pc' : Nat) (hd : decode bytes pc = .ok (.bipush i, 2)) (hp : pc + 2 = pc') (hv : (Int8.ofInt i).toInt32 = v) (w : WP k h cells slots pc' ls (.int v :: st)) : WP k h cells slots pc ls st := by
  subst hp; exact w.plain fun T A t q => XT.bipushV A K.hx rfl v (K.dec hd) hv q
theorem WP.sipush (K : Ok k l Z n0 rm bytes maxL y ret Q) {i : Int} (v : Int32) (pc' : Nat) (hd : decode bytes pc = .ok (.sipush i, 3)) (hp : pc + 3 = pc') (hv : (Int16.ofInt i).toInt32 = v) (w : WP k h cells slots pc' ls (.int v :: st)) : WP k h cells slots pc ls st := by
  subst hp; exact w.plain fun T A t q => XT.sipushV A K.hx rfl v (K.dec hd) hv q
theorem WP.lconst (K : Ok k l Z n0 rm bytes maxL y ret Q) {i : Fin 2} (v : Int64) (pc' : Nat) (hd : decode bytes pc = .ok (.lconst i, 1)) (hp : pc + 1 = pc') (hv : Int64.ofNat i = v) (w : WP k h cells slots pc' ls (.long v :: st)) : WP k h cells slots pc ls st := by
  subst hp; exact w.plain fun T A t q => XT.lconstV A K.hx rfl v (K.dec hd) hv q
theorem WP.aconstNull (K : Ok k l Z n0 rm bytes maxL y ret Q) (pc' : Nat) (hd : decode bytes pc = .ok (.aconst_null, 1)) (hp : pc + 1 = pc') (w : WP k h cells slots pc' ls (.null :: st)) : WP k h cells slots pc ls st := by
  subst hp; exact w.plain fun T A t q => XS.aconstNull A K.hx rfl (K.dec hd) q
theorem WP.iadd (K : Ok k l Z n0 rm bytes maxL y ret Q) {x : Int32} {z : Int32} (pc' : Nat) (hd : decode bytes pc = .ok (.iadd, 1)) (hp : pc + 1 = pc') (w : WP k h cells slots pc' ls (.int (x + z) :: st)) : WP k h cells slots pc ls (.int z :: .int x :: st) := by
  subst hp; exact w.plain fun T A t q => XS.iadd A K.hx rfl (K.dec hd) rfl q
theorem WP.isub (K : Ok k l Z n0 rm bytes maxL y ret Q) {x : Int32} {z : Int32} (pc' : Nat) (hd : decode bytes pc = .ok (.isub, 1)) (hp : pc + 1 = pc') (w : WP k h cells slots pc' ls (.int (x - z) :: st)) : WP k h cells slots pc ls (.int z :: .int x :: st) := by
  subst hp; exact w.plain fun T A t q => XS.isub A K.hx rfl (K.dec hd) rfl q
theorem WP.imul (K : Ok k l Z n0 rm bytes maxL y ret Q) {x : Int32} {z : Int32} (pc' : Nat) (hd : decode bytes pc = .ok (.imul, 1)) (hp : pc + 1 = pc') (w : WP k h cells slots pc' ls (.int (x * z) :: st)) : WP k h cells slots pc ls (.int z :: .int x :: st) := by
  subst hp; exact w.plain fun T A t q => XS.imul A K.hx rfl (K.dec hd) rfl q
theorem WP.iand (K : Ok k l Z n0 rm bytes maxL y ret Q) {x : Int32} {z : Int32} (pc' : Nat) (hd : decode bytes pc = .ok (.iand, 1)) (hp : pc + 1 = pc') (w : WP k h cells slots pc' ls (.int (x &&& z) :: st)) : WP k h cells slots pc ls (.int z :: .int x :: st) := by
  subst hp; exact w.plain fun T A t q => XS.iand A K.hx rfl (K.dec hd) rfl q
theorem WP.ior (K : Ok k l Z n0 rm bytes maxL y ret Q) {x : Int32} {z : Int32} (pc' : Nat) (hd : decode bytes pc = .ok (.ior, 1)) (hp : pc + 1 = pc') (w : WP k h cells slots pc' ls (.int (x ||| z) :: st)) : WP k h cells slots pc ls (.int z :: .int x :: st) := by
  subst hp; exact w.plain fun T A t q => XT.ior A K.hx rfl (K.dec hd) rfl q
theorem WP.ixor (K : Ok k l Z n0 rm bytes maxL y ret Q) {x : Int32} {z : Int32} (pc' : Nat) (hd : decode bytes pc = .ok (.ixor, 1)) (hp : pc + 1 = pc') (w : WP k h cells slots pc' ls (.int (x ^^^ z) :: st)) : WP k h cells slots pc ls (.int z :: .int x :: st) := by
  subst hp; exact w.plain fun T A t q => XT.ixor A K.hx rfl (K.dec hd) rfl q
theorem WP.ishl (K : Ok k l Z n0 rm bytes maxL y ret Q) {x : Int32} {z : Int32} (pc' : Nat) (hd : decode bytes pc = .ok (.ishl, 1)) (hp : pc + 1 = pc') (w : WP k h cells slots pc' ls (.int (x <<< (z &&& 31)) :: st)) : WP k h cells slots pc ls (.int z :: .int x :: st) := by
  subst hp; exact w.plain fun T A t q => XT.ishl A K.hx rfl (K.dec hd) rfl q
theorem WP.ishr (K : Ok k l Z n0 rm bytes maxL y ret Q) {x : Int32} {z : Int32} (pc' : Nat) (hd : decode bytes pc = .ok (.ishr, 1)) (hp : pc + 1 = pc') (w : WP k h cells slots pc' ls (.int (x >>> (z &&& 31)) :: st)) : WP k h cells slots pc ls (.int z :: .int x :: st) := by
  subst hp; exact w.plain fun T A t q => XT.ishr A K.hx rfl (K.dec hd) rfl q
theorem WP.iushr (K : Ok k l Z n0 rm bytes maxL y ret Q) {x : Int32} {z : Int32} (pc' : Nat) (hd : decode bytes pc = .ok (.iushr, 1)) (hp : pc + 1 = pc') (w : WP k h cells slots pc' ls (.int (XT.ushr x z) :: st)) : WP k h cells slots pc ls (.int z :: .int x :: st) := by
  subst hp; exact w.plain fun T A t q => XT.iushr A K.hx rfl (K.dec hd) rfl q
theorem WP.ladd (K : Ok k l Z n0 rm bytes maxL y ret Q) {x : Int64} {z : Int64} (pc' : Nat) (hd : decode bytes pc = .ok (.ladd, 1)) (hp : pc + 1 = pc') (w : WP k h cells slots pc' ls (.long (x + z) :: st)) : WP k h cells slots pc ls (.long z :: .long x :: st) := by
  subst hp; exact w.plain fun T A t q => XT.ladd A K.hx rfl (K.dec hd) rfl q
theorem WP.lsub (K : Ok k l Z n0 rm bytes maxL y ret Q) {x : Int64} {z : Int64} (pc' : Nat) (hd : decode bytes pc = .ok (.lsub, 1)) (hp : pc + 1 = pc') (w : WP k h cells slots pc' ls (.long (x - z) :: st)) : WP k h cells slots pc ls (.long z :: .long x :: st) := by
  subst hp; exact w.plain fun T A t q => XT.lsub A K.hx rfl (K.dec hd) rfl q
theorem WP.lmul (K : Ok k l Z n0 rm bytes maxL y ret Q) {x : Int64} {z : Int64} (pc' : Nat) (hd : decode bytes pc = .ok (.lmul, 1)) (hp : pc + 1 = pc') (w : WP k h cells slots pc' ls (.long (x * z) :: st)) : WP k h cells slots pc ls (.long z :: .long x :: st) := by
  subst hp; exact w.plain fun T A t q => XT.lmul A K.hx rfl (K.dec hd) rfl q
theorem WP.land (K : Ok k l Z n0 rm bytes maxL y ret Q) {x : Int64} {z : Int64} (pc' : Nat) (hd : decode bytes pc = .ok (.land, 1)) (hp : pc + 1 = pc') (w : WP k h cells slots pc' ls (.long (x &&& z) :: st)) : WP k h cells slots pc ls (.long z :: .long x :: st) := by
  subst hp; exact w.plain fun T A t q => XT.land A K.hx rfl (K.dec hd) rfl q
theorem WP.lor (K : Ok k l Z n0 rm bytes maxL y ret Q) {x : Int64} {z : Int64} (pc' : Nat) (hd : decode bytes pc = .ok (.lor, 1)) (hp : pc + 1 = pc') (w : WP k h cells slots pc' ls (.long (x ||| z) :: st)) : WP k h cells slots pc ls (.long z :: .long x :: st) := by
  subst hp; exact w.plain fun T A t q => XT.lor A K.hx rfl (K.dec hd) rfl q
theorem WP.lxor (K : Ok k l Z n0 rm bytes maxL y ret Q) {x : Int64} {z : Int64} (pc' : Nat) (hd : decode bytes pc = .ok (.lxor, 1)) (hp : pc + 1 = pc') (w : WP k h cells slots pc' ls (.long (x ^^^ z) :: st)) : WP k h cells slots pc ls (.long z :: .long x :: st) := by
  subst hp; exact w.plain fun T A t q => XT.lxor A K.hx rfl (K.dec hd) rfl q
theorem WP.lshl (K : Ok k l Z n0 rm bytes maxL y ret Q) {x : Int64} {z : Int32} (pc' : Nat) (hd : decode bytes pc = .ok (.lshl, 1)) (hp : pc + 1 = pc') (w : WP k h cells slots pc' ls (.long (x <<< (z.toInt64 &&& 63)) :: st)) : WP k h cells slots pc ls (.int z :: .long x :: st) := by
  subst hp; exact w.plain fun T A t q => XT.lshl A K.hx rfl (K.dec hd) rfl q
theorem WP.lshr (K : Ok k l Z n0 rm bytes maxL y ret Q) {x : Int64} {z : Int32} (pc' : Nat) (hd : decode bytes pc = .ok (.lshr, 1)) (hp : pc + 1 = pc') (w : WP k h cells slots pc' ls (.long (x >>> (z.toInt64 &&& 63)) :: st)) : WP k h cells slots pc ls (.int z :: .long x :: st) := by
  subst hp; exact w.plain fun T A t q => XT.lshr A K.hx rfl (K.dec hd) rfl q
theorem WP.lushr (K : Ok k l Z n0 rm bytes maxL y ret Q) {x : Int64} {z : Int32} (pc' : Nat) (hd : decode bytes pc = .ok (.lushr, 1)) (hp : pc + 1 = pc') (w : WP k h cells slots pc' ls (.long (XT.ushrL x z) :: st)) : WP k h cells slots pc ls (.int z :: .long x :: st) := by
  subst hp; exact w.plain fun T A t q => XT.lushr A K.hx rfl (K.dec hd) rfl q
theorem WP.lcmp (K : Ok k l Z n0 rm bytes maxL y ret Q) {x : Int64} {z : Int64} (pc' : Nat) (hd : decode bytes pc = .ok (.lcmp, 1)) (hp : pc + 1 = pc') (w : WP k h cells slots pc' ls (.int (XT.cmpL x z) :: st)) : WP k h cells slots pc ls (.long z :: .long x :: st) := by
  subst hp; exact w.plain fun T A t q => XT.lcmp A K.hx rfl (K.dec hd) rfl q
theorem WP.idiv (K : Ok k l Z n0 rm bytes maxL y ret Q) {x z : Int32} (pc' : Nat) (hd : decode bytes pc = .ok (.idiv, 1)) (hp : pc + 1 = pc') (hz : z ≠ 0) (w : WP k h cells slots pc' ls (.int (x / z) :: st)) : WP k h cells slots pc ls (.int z :: .int x :: st) := by
  subst hp; exact w.plain fun T A t q => XS.idiv A K.hx rfl (K.dec hd) rfl hz q
theorem WP.irem (K : Ok k l Z n0 rm bytes maxL y ret Q) {x z : Int32} (pc' : Nat) (hd : decode bytes pc = .ok (.irem, 1)) (hp : pc + 1 = pc') (hz : z ≠ 0) (w : WP k h cells slots pc' ls (.int (x % z) :: st)) : WP k h cells slots pc ls (.int z :: .int x :: st) := by
  subst hp; rw [← irem_eq_mod] at w; exact w.plain fun T A t q => XS.irem A K.hx rfl (K.dec hd) rfl hz q
theorem WP.ineg (K : Ok k l Z n0 rm bytes maxL y ret Q) {x : Int32} (pc' : Nat) (hd : decode bytes pc = .ok (.ineg, 1)) (hp : pc + 1 = pc') (w : WP k h cells slots pc' ls (.int (-x) :: st)) : WP k h cells slots pc ls (.int x :: st) := by
  subst hp; exact w.plain fun T A t q => XS.ineg A K.hx rfl (K.dec hd) rfl q
theorem WP.lneg (K : Ok k l Z n0 rm bytes maxL y ret Q) {x : Int64} (pc' : Nat) (hd : decode bytes pc = .ok (.lneg, 1)) (hp : pc + 1 = pc') (w : WP k h cells slots pc' ls (.long (-x) :: st)) : WP k h cells slots pc ls (.long x :: st) := by
  subst hp; exact w.plain fun T A t q => XT.lneg A K.hx rfl (K.dec hd) rfl q
theorem WP.i2l (K : Ok k l Z n0 rm bytes maxL y ret Q) {x : Int32} (pc' : Nat) (hd : decode bytes pc = .ok (.i2l, 1)) (hp : pc + 1 = pc') (w : WP k h cells slots pc' ls (.long x.toInt64 :: st)) : WP k h cells slots pc ls (.int x :: st) := by
  subst hp; exact w.plain fun T A t q => XT.i2l A K.hx rfl (K.dec hd) rfl q
theorem WP.l2i (K : Ok k l Z n0 rm bytes maxL y ret Q) {x : Int64} (pc' : Nat) (hd : decode bytes pc = .ok (.l2i, 1)) (hp : pc + 1 = pc') (w : WP k h cells slots pc' ls (.int x.toInt32 :: st)) : WP k h cells slots pc ls (.long x :: st) := by
  subst hp; exact w.plain fun T A t q => XT.l2i A K.hx rfl (K.dec hd) rfl q
theorem WP.i2b (K : Ok k l Z n0 rm bytes maxL y ret Q) {x : Int32} (pc' : Nat) (hd : decode bytes pc = .ok (.i2b, 1)) (hp : pc + 1 = pc') (w : WP k h cells slots pc' ls (.int x.toInt8.toInt32 :: st)) : WP k h cells slots pc ls (.int x :: st) := by
  subst hp; exact w.plain fun T A t q => XT.i2b A K.hx rfl (K.dec hd) rfl q
theorem WP.i2c (K : Ok k l Z n0 rm bytes maxL y ret Q) {x : Int32} (pc' : Nat) (hd : decode bytes pc = .ok (.i2c, 1)) (hp : pc + 1 = pc') (w : WP k h cells slots pc' ls (.int x.toUInt32.toUInt16.toUInt32.toInt32 :: st)) : WP k h cells slots pc ls (.int x :: st) := by
  subst hp; exact w.plain fun T A t q => XT.i2c A K.hx rfl (K.dec hd) rfl q
theorem WP.i2s (K : Ok k l Z n0 rm bytes maxL y ret Q) {x : Int32} (pc' : Nat) (hd : decode bytes pc = .ok (.i2s, 1)) (hp : pc + 1 = pc') (w : WP k h cells slots pc' ls (.int x.toInt16.toInt32 :: st)) : WP k h cells slots pc ls (.int x :: st) := by
  subst hp; exact w.plain fun T A t q => XT.i2s A K.hx rfl (K.dec hd) rfl q
theorem WP.dup (K : Ok k l Z n0 rm bytes maxL y ret Q) {x : Value} (pc' : Nat) (hd : decode bytes pc = .ok (.dup, 1)) (hp : pc + 1 = pc') (hc : x.category = 1) (w : WP k h cells slots pc' ls (x :: x :: st)) : WP k h cells slots pc ls (x :: st) := by
  subst hp; exact w.plain fun T A t q => XS.dup A K.hx rfl (K.dec hd) rfl hc q
theorem WP.pop (K : Ok k l Z n0 rm bytes maxL y ret Q) {x : Value} (pc' : Nat) (hd : decode bytes pc = .ok (.pop, 1)) (hp : pc + 1 = pc') (hc : x.category = 1) (w : WP k h cells slots pc' ls st) : WP k h cells slots pc ls (x :: st) := by
  subst hp; exact w.plain fun T A t q => XT.pop A K.hx rfl (K.dec hd) rfl hc q
theorem WP.dupX1 (K : Ok k l Z n0 rm bytes maxL y ret Q) {x z : Value} (pc' : Nat) (hd : decode bytes pc = .ok (.dup_x1, 1)) (hp : pc + 1 = pc') (hc : x.category = 1) (hc' : z.category = 1) (w : WP k h cells slots pc' ls (x :: z :: x :: st)) : WP k h cells slots pc ls (x :: z :: st) := by
  subst hp; exact w.plain fun T A t q => XT.dupX1 A K.hx rfl (K.dec hd) rfl hc hc' q
theorem WP.dup2 (K : Ok k l Z n0 rm bytes maxL y ret Q) {x z : Value} (pc' : Nat) (hd : decode bytes pc = .ok (.dup2, 1)) (hp : pc + 1 = pc') (hc : x.category = 1) (hc' : z.category = 1) (w : WP k h cells slots pc' ls (x :: z :: x :: z :: st)) : WP k h cells slots pc ls (x :: z :: st) := by
  subst hp; exact w.plain fun T A t q => XT.dup2 A K.hx rfl (K.dec hd) rfl hc hc' q
theorem WP.dup2L (K : Ok k l Z n0 rm bytes maxL y ret Q) {x : Int64} (pc' : Nat) (hd : decode bytes pc = .ok (.dup2, 1)) (hp : pc + 1 = pc') (w : WP k h cells slots pc' ls (.long x :: .long x :: st)) : WP k h cells slots pc ls (.long x :: st) := by
  subst hp; exact w.plain fun T A t q => XT.dup2L A K.hx rfl (K.dec hd) rfl q
theorem WP.iinc (K : Ok k l Z n0 rm bytes maxL y ret Q) {i : Nat} {cst : Int} {x : Int32} (v : Int32) (pc' : Nat) (ls' : List Slot) (hd : decode bytes pc = .ok (.iinc i cst, 3)) (hp : pc + 3 = pc') (hv : Int32.ofInt cst = v) (hl : ls[i]? = some (.val (.int x))) (hl' : storeLocals ls.toArray i (.int (x + v)) = some ls'.toArray) (w : WP k h cells slots pc' ls' st) : WP k h cells slots pc ls st := by
  subst hp; exact w.plain fun T A t q => XT.iincV A K.hx rfl v (K.dec hd) hv (arrGet hl) hl' q
theorem WP.goto (K : Ok k l Z n0 rm bytes maxL y ret Q) {o : Int} (pc' : Nat) (hd : decode bytes pc = .ok (.goto o, 3)) (hp : (pc : Int) + o = pc') (w : WP k h cells slots pc' ls st) : WP k h cells slots pc ls st :=
  w.plain fun T A t q => XS.goto A K.hx rfl (pc0 := pc) (pc' := pc') rfl (K.dec hd) (by omega) (by omega) q
theorem WP.icmp (K : Ok k l Z n0 rm bytes maxL y ret Q) {cd : ClassFile.Cond} {o : Int} {x z : Int32} (tp fp : Nat) (hd : decode bytes pc = .ok (.if_icmp cd o, 3)) (ht : (pc : Int) + o = tp) (hf : pc + 3 = fp)
    (wt : if_icmp.holds cd x z = true → WP k h cells slots tp ls st) (wf : if_icmp.holds cd x z = false → WP k h cells slots fp ls st) : WP k h cells slots pc ls (.int z :: .int x :: st) := by
  subst hf
  cases hh : if_icmp.holds cd x z
  · exact (wf hh).plain fun T A t q => XS.icmpNo A K.hx rfl (K.dec hd) rfl hh q
  · exact (wt hh).plain fun T A t q => XS.icmpYes A K.hx rfl (pc0 := pc) (pc' := tp) rfl (K.dec hd) rfl hh (by omega) (by omega) q
theorem WP.if0 (K : Ok k l Z n0 rm bytes maxL y ret Q) {cd : ClassFile.Cond} {o : Int} {x : Int32} (tp fp : Nat) (hd : decode bytes pc = .ok (.ifCond cd o, 3)) (ht : (pc : Int) + o = tp) (hf : pc + 3 = fp)
    (wt : ifCond.holds cd x = true → WP k h cells slots tp ls st) (wf : ifCond.holds cd x = false → WP k h cells slots fp ls st) : WP k h cells slots pc ls (.int x :: st) := by
  subst hf
  cases hh : ifCond.holds cd x
  · exact (wf hh).plain fun T A t q => XS.ifNo A K.hx rfl (K.dec hd) rfl hh q
  · exact (wt hh).plain fun T A t q => XS.ifYes A K.hx rfl (pc0 := pc) (pc' := tp) rfl (K.dec hd) rfl hh (by omega) (by omega) q
theorem h_lt {x z : Int32} : if_icmp.holds .lt x z = decide (x.toInt < z.toInt) := by simp [if_icmp.holds, Int32.lt_iff_toInt_lt]
theorem h_ge {x z : Int32} : if_icmp.holds .ge x z = decide (z.toInt ≤ x.toInt) := by simp [if_icmp.holds, Int32.le_iff_toInt_le]
theorem h_gt {x z : Int32} : if_icmp.holds .gt x z = decide (z.toInt < x.toInt) := by simp [if_icmp.holds, Int32.lt_iff_toInt_lt]
theorem h_le {x z : Int32} : if_icmp.holds .le x z = decide (x.toInt ≤ z.toInt) := by simp [if_icmp.holds, Int32.le_iff_toInt_le]
theorem h_eq {x z : Int32} : if_icmp.holds .eq x z = decide (x.toInt = z.toInt) := by
  rw [Bool.eq_iff_iff, decide_eq_true_iff, Int32.toInt_inj]; simp [if_icmp.holds]
theorem h_ne {x z : Int32} : if_icmp.holds .ne x z = decide (x.toInt ≠ z.toInt) := by
  by_cases q : x = z <;> simp [if_icmp.holds, Int32.toInt_inj, q]
theorem WP.icmp_lt (K : Ok k l Z n0 rm bytes maxL y ret Q) {o : Int} {x z : Int32} (tp fp : Nat) (hd : decode bytes pc = .ok (.if_icmp .lt o, 3)) (ht : (pc : Int) + o = tp) (hf : pc + 3 = fp)
    (wt : x.toInt < z.toInt → WP k h cells slots tp ls st) (wf : z.toInt ≤ x.toInt → WP k h cells slots fp ls st) : WP k h cells slots pc ls (.int z :: .int x :: st) :=
  WP.icmp K tp fp hd ht hf (fun q => wt (by rw [h_lt] at q; exact of_decide_eq_true q)) (fun q => wf (by rw [h_lt] at q; have q := of_decide_eq_false q; omega))
theorem WP.if_lt (K : Ok k l Z n0 rm bytes maxL y ret Q) {o : Int} {x : Int32} (tp fp : Nat) (hd : decode bytes pc = .ok (.ifCond .lt o, 3)) (ht : (pc : Int) + o = tp) (hf : pc + 3 = fp)
    (wt : x.toInt < 0 → WP k h cells slots tp ls st) (wf : 0 ≤ x.toInt → WP k h cells slots fp ls st) : WP k h cells slots pc ls (.int x :: st) :=
  WP.if0 K tp fp hd ht hf (fun q => wt (by rw [RoadKit.if0, h_lt] at q; exact of_decide_eq_true q)) (fun q => wf (by rw [RoadKit.if0, h_lt] at q; have q := of_decide_eq_false q; rw [show (0 : Int32).toInt = 0 from rfl] at q; omega))
theorem WP.ifl_lt (K : Ok k l Z n0 rm bytes maxL y ret Q) {o : Int} {x z : Int64} (tp fp : Nat) (hd : decode bytes pc = .ok (.ifCond .lt o, 3)) (ht : (pc : Int) + o = tp) (hf : pc + 3 = fp)
    (wt : x.toInt < z.toInt → WP k h cells slots tp ls st) (wf : z.toInt ≤ x.toInt → WP k h cells slots fp ls st) : WP k h cells slots pc ls (.int (XT.cmpL x z) :: st) := by
  refine WP.if0 K tp fp hd ht hf (fun q => ?_) (fun q => ?_)
  · refine wt ?_
    false_or_by_contra
    rename_i c
    rw [XT.ll_lt_f (by simp only [Int64.lt_iff_toInt_lt, ← Int64.toInt_inj]; omega)] at q; cases q
  · refine wf ?_
    false_or_by_contra
    rename_i c
    rw [XT.ll_lt_t (by simp only [Int64.lt_iff_toInt_lt, ← Int64.toInt_inj]; omega)] at q; cases q
theorem WP.icmp_ge (K : Ok k l Z n0 rm bytes maxL y ret Q) {o : Int} {x z : Int32} (tp fp : Nat) (hd : decode bytes pc = .ok (.if_icmp .ge o, 3)) (ht : (pc : Int) + o = tp) (hf : pc + 3 = fp)
    (wt : z.toInt ≤ x.toInt → WP k h cells slots tp ls st) (wf : x.toInt < z.toInt → WP k h cells slots fp ls st) : WP k h cells slots pc ls (.int z :: .int x :: st) :=
  WP.icmp K tp fp hd ht hf (fun q => wt (by rw [h_ge] at q; exact of_decide_eq_true q)) (fun q => wf (by rw [h_ge] at q; have q := of_decide_eq_false q; omega))
theorem WP.if_ge (K : Ok k l Z n0 rm bytes maxL y ret Q) {o : Int} {x : Int32} (tp fp : Nat) (hd : decode bytes pc = .ok (.ifCond .ge o, 3)) (ht : (pc : Int) + o = tp) (hf : pc + 3 = fp)
    (wt : 0 ≤ x.toInt → WP k h cells slots tp ls st) (wf : x.toInt < 0 → WP k h cells slots fp ls st) : WP k h cells slots pc ls (.int x :: st) :=
  WP.if0 K tp fp hd ht hf (fun q => wt (by rw [RoadKit.if0, h_ge] at q; exact of_decide_eq_true q)) (fun q => wf (by rw [RoadKit.if0, h_ge] at q; have q := of_decide_eq_false q; rw [show (0 : Int32).toInt = 0 from rfl] at q; omega))
theorem WP.ifl_ge (K : Ok k l Z n0 rm bytes maxL y ret Q) {o : Int} {x z : Int64} (tp fp : Nat) (hd : decode bytes pc = .ok (.ifCond .ge o, 3)) (ht : (pc : Int) + o = tp) (hf : pc + 3 = fp)
    (wt : z.toInt ≤ x.toInt → WP k h cells slots tp ls st) (wf : x.toInt < z.toInt → WP k h cells slots fp ls st) : WP k h cells slots pc ls (.int (XT.cmpL x z) :: st) := by
  refine WP.if0 K tp fp hd ht hf (fun q => ?_) (fun q => ?_)
  · refine wt ?_
    false_or_by_contra
    rename_i c
    rw [XT.ll_ge_f (by simp only [Int64.lt_iff_toInt_lt, ← Int64.toInt_inj]; omega)] at q; cases q
  · refine wf ?_
    false_or_by_contra
    rename_i c
    rw [XT.ll_ge_t (by simp only [Int64.lt_iff_toInt_lt, ← Int64.toInt_inj]; omega)] at q; cases q
theorem WP.icmp_gt (K : Ok k l Z n0 rm bytes maxL y ret Q) {o : Int} {x z : Int32} (tp fp : Nat) (hd : decode bytes pc = .ok (.if_icmp .gt o, 3)) (ht : (pc : Int) + o = tp) (hf : pc + 3 = fp)
    (wt : z.toInt < x.toInt → WP k h cells slots tp ls st) (wf : x.toInt ≤ z.toInt → WP k h cells slots fp ls st) : WP k h cells slots pc ls (.int z :: .int x :: st) :=
  WP.icmp K tp fp hd ht hf (fun q => wt (by rw [h_gt] at q; exact of_decide_eq_true q)) (fun q => wf (by rw [h_gt] at q; have q := of_decide_eq_false q; omega))
theorem WP.if_gt (K : Ok k l Z n0 rm bytes maxL y ret Q) {o : Int} {x : Int32} (tp fp : Nat) (hd : decode bytes pc = .ok (.ifCond .gt o, 3)) (ht : (pc : Int) + o = tp) (hf : pc + 3 = fp)
    (wt : 0 < x.toInt → WP k h cells slots tp ls st) (wf : x.toInt ≤ 0 → WP k h cells slots fp ls st) : WP k h cells slots pc ls (.int x :: st) :=
  WP.if0 K tp fp hd ht hf (fun q => wt (by rw [RoadKit.if0, h_gt] at q; exact of_decide_eq_true q)) (fun q => wf (by rw [RoadKit.if0, h_gt] at q; have q := of_decide_eq_false q; rw [show (0 : Int32).toInt = 0 from rfl] at q; omega))
theorem WP.ifl_gt (K : Ok k l Z n0 rm bytes maxL y ret Q) {o : Int} {x z : Int64} (tp fp : Nat) (hd : decode bytes pc = .ok (.ifCond .gt o, 3)) (ht : (pc : Int) + o = tp) (hf : pc + 3 = fp)
    (wt : z.toInt < x.toInt → WP k h cells slots tp ls st) (wf : x.toInt ≤ z.toInt → WP k h cells slots fp ls st) : WP k h cells slots pc ls (.int (XT.cmpL x z) :: st) := by
  refine WP.if0 K tp fp hd ht hf (fun q => ?_) (fun q => ?_)
  · refine wt ?_
    false_or_by_contra
    rename_i c
    rw [XT.ll_gt_f (by simp only [Int64.lt_iff_toInt_lt, ← Int64.toInt_inj]; omega)] at q; cases q
  · refine wf ?_
    false_or_by_contra
    rename_i c
    rw [XT.ll_gt_t (by simp only [Int64.lt_iff_toInt_lt, ← Int64.toInt_inj]; omega)] at q; cases q
theorem WP.icmp_le (K : Ok k l Z n0 rm bytes maxL y ret Q) {o : Int} {x z : Int32} (tp fp : Nat) (hd : decode bytes pc = .ok (.if_icmp .le o, 3)) (ht : (pc : Int) + o = tp) (hf : pc + 3 = fp)
    (wt : x.toInt ≤ z.toInt → WP k h cells slots tp ls st) (wf : z.toInt < x.toInt → WP k h cells slots fp ls st) : WP k h cells slots pc ls (.int z :: .int x :: st) :=
  WP.icmp K tp fp hd ht hf (fun q => wt (by rw [h_le] at q; exact of_decide_eq_true q)) (fun q => wf (by rw [h_le] at q; have q := of_decide_eq_false q; omega))
theorem WP.if_le (K : Ok k l Z n0 rm bytes maxL y ret Q) {o : Int} {x : Int32} (tp fp : Nat) (hd : decode bytes pc = .ok (.ifCond .le o, 3)) (ht : (pc : Int) + o = tp) (hf : pc + 3 = fp)
    (wt : x.toInt ≤ 0 → WP k h cells slots tp ls st) (wf : 0 < x.toInt → WP k h cells slots fp ls st) : WP k h cells slots pc ls (.int x :: st) :=
  WP.if0 K tp fp hd ht hf (fun q => wt (by rw [RoadKit.if0, h_le] at q; exact of_decide_eq_true q)) (fun q => wf (by rw [RoadKit.if0, h_le] at q; have q := of_decide_eq_false q; rw [show (0 : Int32).toInt = 0 from rfl] at q; omega))
theorem WP.ifl_le (K : Ok k l Z n0 rm bytes maxL y ret Q) {o : Int} {x z : Int64} (tp fp : Nat) (hd : decode bytes pc = .ok (.ifCond .le o, 3)) (ht : (pc : Int) + o = tp) (hf : pc + 3 = fp)
    (wt : x.toInt ≤ z.toInt → WP k h cells slots tp ls st) (wf : z.toInt < x.toInt → WP k h cells slots fp ls st) : WP k h cells slots pc ls (.int (XT.cmpL x z) :: st) := by
  refine WP.if0 K tp fp hd ht hf (fun q => ?_) (fun q => ?_)
  · refine wt ?_
    false_or_by_contra
    rename_i c
    rw [XT.ll_le_f (by simp only [Int64.lt_iff_toInt_lt, ← Int64.toInt_inj]; omega)] at q; cases q
  · refine wf ?_
    false_or_by_contra
    rename_i c
    rw [XT.ll_le_t (by simp only [Int64.lt_iff_toInt_lt, ← Int64.toInt_inj]; omega)] at q; cases q
theorem WP.icmp_eq (K : Ok k l Z n0 rm bytes maxL y ret Q) {o : Int} {x z : Int32} (tp fp : Nat) (hd : decode bytes pc = .ok (.if_icmp .eq o, 3)) (ht : (pc : Int) + o = tp) (hf : pc + 3 = fp)
    (wt : x.toInt = z.toInt → WP k h cells slots tp ls st) (wf : x.toInt ≠ z.toInt → WP k h cells slots fp ls st) : WP k h cells slots pc ls (.int z :: .int x :: st) :=
  WP.icmp K tp fp hd ht hf (fun q => wt (by rw [h_eq] at q; exact of_decide_eq_true q)) (fun q => wf (by rw [h_eq] at q; have q := of_decide_eq_false q; omega))
theorem WP.if_eq (K : Ok k l Z n0 rm bytes maxL y ret Q) {o : Int} {x : Int32} (tp fp : Nat) (hd : decode bytes pc = .ok (.ifCond .eq o, 3)) (ht : (pc : Int) + o = tp) (hf : pc + 3 = fp)
    (wt : x.toInt = 0 → WP k h cells slots tp ls st) (wf : x.toInt ≠ 0 → WP k h cells slots fp ls st) : WP k h cells slots pc ls (.int x :: st) :=
  WP.if0 K tp fp hd ht hf (fun q => wt (by rw [RoadKit.if0, h_eq] at q; exact of_decide_eq_true q)) (fun q => wf (by rw [RoadKit.if0, h_eq] at q; have q := of_decide_eq_false q; rw [show (0 : Int32).toInt = 0 from rfl] at q; omega))
theorem WP.ifl_eq (K : Ok k l Z n0 rm bytes maxL y ret Q) {o : Int} {x z : Int64} (tp fp : Nat) (hd : decode bytes pc = .ok (.ifCond .eq o, 3)) (ht : (pc : Int) + o = tp) (hf : pc + 3 = fp)
    (wt : x.toInt = z.toInt → WP k h cells slots tp ls st) (wf : x.toInt ≠ z.toInt → WP k h cells slots fp ls st) : WP k h cells slots pc ls (.int (XT.cmpL x z) :: st) := by
  refine WP.if0 K tp fp hd ht hf (fun q => ?_) (fun q => ?_)
  · refine wt ?_
    false_or_by_contra
    rename_i c
    rw [XT.ll_eq_f (by simp only [Int64.lt_iff_toInt_lt, ← Int64.toInt_inj]; omega)] at q; cases q
  · refine wf ?_
    false_or_by_contra
    rename_i c
    rw [XT.ll_eq_t (by simp only [Int64.lt_iff_toInt_lt, ← Int64.toInt_inj]; omega)] at q; cases q
theorem WP.icmp_ne (K : Ok k l Z n0 rm bytes maxL y ret Q) {o : Int} {x z : Int32} (tp fp : Nat) (hd : decode bytes pc = .ok (.if_icmp .ne o, 3)) (ht : (pc : Int) + o = tp) (hf : pc + 3 = fp)
    (wt : x.toInt ≠ z.toInt → WP k h cells slots tp ls st) (wf : x.toInt = z.toInt → WP k h cells slots fp ls st) : WP k h cells slots pc ls (.int z :: .int x :: st) :=
  WP.icmp K tp fp hd ht hf (fun q => wt (by rw [h_ne] at q; exact of_decide_eq_true q)) (fun q => wf (by rw [h_ne] at q; have q := of_decide_eq_false q; omega))
theorem WP.if_ne (K : Ok k l Z n0 rm bytes maxL y ret Q) {o : Int} {x : Int32} (tp fp : Nat) (hd : decode bytes pc = .ok (.ifCond .ne o, 3)) (ht : (pc : Int) + o = tp) (hf : pc + 3 = fp)
    (wt : x.toInt ≠ 0 → WP k h cells slots tp ls st) (wf : x.toInt = 0 → WP k h cells slots fp ls st) : WP k h cells slots pc ls (.int x :: st) :=
  WP.if0 K tp fp hd ht hf (fun q => wt (by rw [RoadKit.if0, h_ne] at q; exact of_decide_eq_true q)) (fun q => wf (by rw [RoadKit.if0, h_ne] at q; have q := of_decide_eq_false q; rw [show (0 : Int32).toInt = 0 from rfl] at q; omega))
theorem WP.ifl_ne (K : Ok k l Z n0 rm bytes maxL y ret Q) {o : Int} {x z : Int64} (tp fp : Nat) (hd : decode bytes pc = .ok (.ifCond .ne o, 3)) (ht : (pc : Int) + o = tp) (hf : pc + 3 = fp)
    (wt : x.toInt ≠ z.toInt → WP k h cells slots tp ls st) (wf : x.toInt = z.toInt → WP k h cells slots fp ls st) : WP k h cells slots pc ls (.int (XT.cmpL x z) :: st) := by
  refine WP.if0 K tp fp hd ht hf (fun q => ?_) (fun q => ?_)
  · refine wt ?_
    false_or_by_contra
    rename_i c
    rw [XT.ll_ne_f (by simp only [Int64.lt_iff_toInt_lt, ← Int64.toInt_inj]; omega)] at q; cases q
  · refine wf ?_
    false_or_by_contra
    rename_i c
    rw [XT.ll_ne_t (by simp only [Int64.lt_iff_toInt_lt, ← Int64.toInt_inj]; omega)] at q; cases q
theorem WP.ifnull_n (K : Ok k l Z n0 rm bytes maxL y ret Q) {o : Int} (tp : Nat) (hd : decode bytes pc = .ok (.ifnull o, 3)) (ht : (pc : Int) + o = tp) (w : WP k h cells slots tp ls st) : WP k h cells slots pc ls (.null :: st) :=
  w.plain fun T A t q => XS.ifnullYes A K.hx rfl (pc0 := pc) (pc' := tp) rfl (K.dec hd) rfl (by omega) (by omega) q
theorem WP.ifnull_r (K : Ok k l Z n0 rm bytes maxL y ret Q) {o : Int} {b : Addr} (fp : Nat) (hd : decode bytes pc = .ok (.ifnull o, 3)) (hf : pc + 3 = fp) (w : WP k h cells slots fp ls st) : WP k h cells slots pc ls (.ref b :: st) := by
  subst hf; exact w.plain fun T A t q => XS.ifnullNo A K.hx rfl (K.dec hd) rfl q
theorem WP.ifnonnull_r (K : Ok k l Z n0 rm bytes maxL y ret Q) {o : Int} {b : Addr} (tp : Nat) (hd : decode bytes pc = .ok (.ifnonnull o, 3)) (ht : (pc : Int) + o = tp) (w : WP k h cells slots tp ls st) : WP k h cells slots pc ls (.ref b :: st) :=
  w.plain fun T A t q => XT.ifnonnullYes A K.hx rfl (pc0 := pc) (pc' := tp) rfl (K.dec hd) rfl (by omega) (by omega) q
theorem WP.ifnonnull_n (K : Ok k l Z n0 rm bytes maxL y ret Q) {o : Int} (fp : Nat) (hd : decode bytes pc = .ok (.ifnonnull o, 3)) (hf : pc + 3 = fp) (w : WP k h cells slots fp ls st) : WP k h cells slots pc ls (.null :: st) := by
  subst hf; exact w.plain fun T A t q => XT.ifnonnullNo A K.hx rfl (K.dec hd) rfl q
theorem WP.acmp_eq (K : Ok k l Z n0 rm bytes maxL y ret Q) {o : Int} {x z : Value} (tp fp : Nat) (hd : decode bytes pc = .ok (.if_acmp .eq o, 3)) (ht : (pc : Int) + o = tp) (hf : pc + 3 = fp) (hx : x.isRef = true) (hz : z.isRef = true)
    (wt : x = z → WP k h cells slots tp ls st) (wf : x ≠ z → WP k h cells slots fp ls st) : WP k h cells slots pc ls (z :: x :: st) := by
  subst hf
  by_cases c : x = z
  · exact (wt c).plain fun T A t q => XT.acmpYes A K.hx rfl (pc0 := pc) (pc' := tp) rfl (K.dec hd) rfl hx hz (XT.aa_eq_t c) (by omega) (by omega) q
  · exact (wf c).plain fun T A t q => XT.acmpNo A K.hx rfl (K.dec hd) rfl hx hz (XT.aa_eq_f c) q
theorem WP.acmp_ne (K : Ok k l Z n0 rm bytes maxL y ret Q) {o : Int} {x z : Value} (tp fp : Nat) (hd : decode bytes pc = .ok (.if_acmp .ne o, 3)) (ht : (pc : Int) + o = tp) (hf : pc + 3 = fp) (hx : x.isRef = true) (hz : z.isRef = true)
    (wt : x ≠ z → WP k h cells slots tp ls st) (wf : x = z → WP k h cells slots fp ls st) : WP k h cells slots pc ls (z :: x :: st) := by
  subst hf
  by_cases c : x = z
  · exact (wf c).plain fun T A t q => XT.acmpNo A K.hx rfl (K.dec hd) rfl hx hz (XT.aa_ne_f c) q
  · exact (wt c).plain fun T A t q => XT.acmpYes A K.hx rfl (pc0 := pc) (pc' := tp) rfl (K.dec hd) rfl hx hz (XT.aa_ne_t c) (by omega) (by omega) q
theorem WP.tsw (K : Ok k l Z n0 rm bytes maxL y ret Q) {d lo hi : Int} {offs : Array Int} {len : Nat} {i : Int32} (dp : Nat) (hd : decode bytes pc = .ok (.tableswitch d lo hi offs, len)) (hdp : (pc : Int) + d = dp)
    (win : ∀ j o, i.toInt = lo + (j : Nat) → i.toInt ≤ hi → offs[j]? = some o → 0 ≤ (pc : Int) + o ∧ WP k h cells slots ((pc : Int) + o).toNat ls st) (hsz : hi - lo < offs.size) (wout : i.toInt < lo ∨ hi < i.toInt → WP k h cells slots dp ls st) : WP k h cells slots pc ls (.int i :: st) := by
  by_cases c : i.toInt < lo ∨ i.toInt > hi
  · exact (wout c).plain fun T A t q => XS.tswOut A K.hx rfl (pc0 := pc) (pc' := dp) rfl (K.dec hd) rfl c (by omega) (by omega) q
  · have hj : (i.toInt - lo).toNat < offs.size := by omega
    obtain ⟨h0, w⟩ := win (i.toInt - lo).toNat _ (by omega) (by omega) (Array.getElem?_eq_getElem hj)
    exact w.plain fun T A t q => XS.tswIn A K.hx rfl (pc0 := pc) rfl (K.dec hd) rfl c (Array.getElem?_eq_getElem hj) h0 rfl q
theorem WP.ldcI (K : Ok k l Z n0 rm bytes maxL y ret Q) {a0 : Array Value} {i : Nat} {v : Int32} (pc' : Nat) (hw : (Jvm.Cond.constant y.cls i v).before a0 Z = true) (hd : decode bytes pc = .ok (.ldc i, 2)) (hp : pc + 2 = pc') (w : WP k h cells slots pc' ls (.int v :: st)) : WP k h cells slots pc ls st := by
  subst hp; exact fun T locs X e N => End.back (fun t q => Stand.ldcI X K.hx K.hown (mvT K.hZ hw) rfl (K.dec hd) q) (w T locs X e N)
theorem WP.ldcWI (K : Ok k l Z n0 rm bytes maxL y ret Q) {a0 : Array Value} {i : Nat} {v : Int32} (pc' : Nat) (hw : (Jvm.Cond.constant y.cls i v).before a0 Z = true) (hd : decode bytes pc = .ok (.ldc_w i, 3)) (hp : pc + 3 = pc') (w : WP k h cells slots pc' ls (.int v :: st)) : WP k h cells slots pc ls st := by
  subst hp; exact fun T locs X e N => End.back (fun t q => Stand.ldcWI X K.hx K.hown (mvT K.hZ hw) rfl (K.dec hd) q) (w T locs X e N)
theorem WP.ldc2J (K : Ok k l Z n0 rm bytes maxL y ret Q) {a0 : Array Value} {i : Nat} {v : Int64} (pc' : Nat) (hw : (Jvm.Cond.constantLong y.cls i v).before a0 Z = true) (hd : decode bytes pc = .ok (.ldc2_w i, 3)) (hp : pc + 3 = pc') (w : WP k h cells slots pc' ls (.long v :: st)) : WP k h cells slots pc ls st := by
  subst hp; exact fun T locs X e N => End.back (fun t q => Stand.ldc2J X K.hx K.hown (mvT K.hZ hw) rfl (K.dec hd) q) (w T locs X e N)
theorem WP.leave (K : Ok k l Z n0 rm bytes maxL y ret Q) (v : Option Value) (hv : k.meth.sig.returnType = none → v = none) (hq : Q v h) (hc : cells ≤ rm.cells) (hs : slots ≤ rm.slots)
    (st' : ∀ (T : State) (locs : List Loc), k.St T locs cells slots → ∀ fs, (∀ (f : JFrame) (acts : List Action), f.method = k.m → f.locked = none → f.entered = [] → (doReturn k.e (T.setTop f) acts v).1 = T.setFrames fs) → Steps k.p.tables k.e k.below (T.setTop (mkF k.m pc ls.toArray st)) (T.setFrames fs)) : WP k h cells slots pc ls st := by
  intro T locs X e N
  obtain ⟨fs, hr, hrun, hended, hW, hsame⟩ := Stand.leave X (v := v) hv K.hlk
  have hq' : Q v (T.setFrames fs).heap := by show Q v T.heap; rw [e]; exact hq
  refine ⟨_, _, st' T locs X fs hr, hrun, hended, v, locs, rfl, ⟨by rw [K.hQ]; exact hq', N⟩, K.hfin v _ locs hq' ⟨⟨_, rfl⟩, hW, hsame.mono (by rw [K.hR]; exact hc) (by rw [K.hR]; exact hs)⟩⟩
theorem WP.retV (K : Ok k l Z n0 rm bytes maxL y ret Q) (hr : ret = none) (hd : decode bytes pc = .ok (.return_, 1)) (hq : Q none h) (hc : cells ≤ rm.cells) (hs : slots ≤ rm.slots) : WP k h cells slots pc ls [] :=
  WP.leave K none (fun _ => rfl) hq hc hs fun T locs X fs hl => Stand.returnOut X K.hx (K.hret.trans hr) (K.dec hd) hl
theorem WP.iret (K : Ok k l Z n0 rm bytes maxL y ret Q) {z : Int32} {t : FieldType} (hr : ret = some t) (ht : t = .int ∨ t = .boolean ∨ t = .byte ∨ t = .char ∨ t = .short) (hn : narrow t (.int z) = .int z) (hd : decode bytes pc = .ok (.ireturn, 1)) (hq : Q (some (.int z)) h) (hc : cells ≤ rm.cells) (hs : slots ≤ rm.slots) : WP k h cells slots pc ls (.int z :: st) :=
  WP.leave K (some (.int z)) (fun q => by rw [K.hret, hr] at q; cases q) hq hc hs fun T locs X fs hl => RoadKit.retOut X K.hx (K.hret.trans hr) hn (Or.inl ⟨rfl, ht, z, rfl⟩) (K.dec hd) hl
theorem WP.lret (K : Ok k l Z n0 rm bytes maxL y ret Q) {z : Int64} (hr : ret = some .long) (hd : decode bytes pc = .ok (.lreturn, 1)) (hq : Q (some (.long z)) h) (hc : cells ≤ rm.cells) (hs : slots ≤ rm.slots) : WP k h cells slots pc ls (.long z :: st) :=
  WP.leave K (some (.long z)) (fun q => by rw [K.hret, hr] at q; cases q) hq hc hs fun T locs X fs hl => RoadKit.retOut X K.hx (K.hret.trans hr) rfl (Or.inr (Or.inl ⟨rfl, rfl, z, rfl⟩)) (K.dec hd) hl
theorem WP.aret (K : Ok k l Z n0 rm bytes maxL y ret Q) {v : Value} {t : FieldType} (hr : ret = some t) (ht : t.isReference = true) (hn : narrow t v = v) (hv : v.isRef = true) (hd : decode bytes pc = .ok (.areturn, 1)) (hq : Q (some v) h) (hc : cells ≤ rm.cells) (hs : slots ≤ rm.slots) : WP k h cells slots pc ls (v :: st) :=
  WP.leave K (some v) (fun q => by rw [K.hret, hr] at q; cases q) hq hc hs fun T locs X fs hl => RoadKit.retOut X K.hx (K.hret.trans hr) hn (Or.inr (Or.inr (Or.inr (Or.inr ⟨rfl, ht, hv⟩)))) (K.dec hd) hl
theorem nar_bit {z : Int32} (q : z = 0 ∨ z = 1) : narrow .boolean (.int z) = .int z := by rcases q with rfl | rfl <;> rfl
end Plain
section HeapSteps
variable {k : Cx} {l : Launch} {Z : State} {n0 : Nat} {rm : Room} {bytes : ByteArray} {maxL : Nat} {y : MethodName} {ret : Option FieldType} {Q : Option Value → Heap → Prop} {h h' : Heap} {cells slots pc : Nat} {ls : List Slot} {st : List Value} {a0 : Array Value} {a b : Addr}
theorem ne_addr {a b : Nat} (h : a ≠ b) : @Ne Addr a b := h
theorem nm0 {a : Nat} (h : (0 : Nat) = 0) : a ∉ ([] : List Addr) := List.not_mem_nil
theorem ks0 {n : Nat} {ws : List Addr} : ∀ x ∈ ([] : List Addr), x ∈ ws ∨ n ≤ x := fun x hx => absurd hx List.not_mem_nil
theorem nm1 {a b : Nat} (h : a ≠ b) : a ∉ ([b] : List Addr) := by intro q; exact h (List.mem_singleton.mp q)
theorem nm2 {a b c : Nat} (h : a ≠ b ∧ a ≠ c) : a ∉ ([b, c] : List Addr) := by
  intro q
  rcases List.mem_cons.mp q with q | q
  · exact h.1 q
  · exact h.2 (List.mem_singleton.mp q)
theorem ks1 {b n : Nat} {ws : List Addr} (h : b ∈ ws ∨ n ≤ b) : ∀ x ∈ ([b] : List Addr), x ∈ ws ∨ n ≤ x := fun x hx => by cases List.mem_singleton.mp hx; exact h
theorem ks2 {b c n : Nat} {ws : List Addr} (h : b ∈ ws ∨ n ≤ b) (h' : c ∈ ws ∨ n ≤ c) : ∀ x ∈ ([b, c] : List Addr), x ∈ ws ∨ n ≤ x := fun x hx => by
  rcases List.mem_cons.mp hx with q | q
  · rw [q]; exact h
  · cases List.mem_singleton.mp q; exact h'
theorem ext_keep (E : Ext h h') (ws : List Addr) : Keep h h' ws := (Keep.refl h ws).ext E
theorem keep_sub {ws ws' : List Addr} (K : Keep h h' ws) (q : ∀ x ∈ ws, x ∈ ws') : Keep h h' ws' := ⟨K.1, fun x c e r => K.2.1 x c e fun z => r (q x z), K.2.2⟩
theorem keep_trans {h'' : Heap} {ws : List Addr} (K : Keep h h' ws) (K' : Keep h' h'' ws) : Keep h h'' ws := K.trans K' fun x hx => Or.inl hx
theorem WP.getfield (K : Ok k l Z n0 rm bytes maxL y ret Q) {i : Nat} {R0 O n d host : String} {v : Value} (pc' : Nat) (hw : (Jvm.Cond.fieldLink y.cls i R0 n d).before a0 Z = true ∨ (Jvm.Cond.fieldLinkNest y.cls i R0 n d host).before a0 Z = true) (via : Via Z R0 O n d) (F : Fld Z h a O n d v) (hd : decode bytes pc = .ok (.getfield i, 3)) (hp : pc + 3 = pc')
    (w : WP k h cells slots pc' ls (v :: st)) : WP k h cells slots pc ls (.ref a :: st) := by
  subst hp
  intro T locs X e N
  obtain ⟨T', X', e', stp⟩ := getF X K.hx K.hZ K.hown hw via e F (g := mkF k.m pc ls.toArray (.ref a :: st)) rfl rfl (K.dec hd)
  exact End.back stp (w T' locs X' e' N)
theorem WP.getstatic (K : Ok k l Z n0 rm bytes maxL y ret Q) {i : Nat} {R0 O n d : String} {v : Value} (pc' : Nat) (hw : (Jvm.Cond.fieldLink y.cls i R0 n d).before a0 Z = true) (via : Via Z R0 O n d) (F : Sta Z h O n d v) (hd : decode bytes pc = .ok (.getstatic i, 3)) (hp : pc + 3 = pc')
    (w : WP k h cells slots pc' ls (v :: st)) : WP k h cells slots pc ls st := by
  subst hp
  intro T locs X e N
  obtain ⟨T', X', e', stp⟩ := getS X K.hx K.hZ K.hown (host := "") hw via e F (g := mkF k.m pc ls.toArray st) rfl (K.dec hd)
  exact End.back stp (w T' locs X' e' N)
theorem WP.putfield (K : Ok k l Z n0 rm bytes maxL y ret Q) {i kk : Nat} {R0 O n d host C : String} {v old : Value} {ty : FieldType} (pc' : Nat) (hw : (Jvm.Cond.fieldLink y.cls i R0 n d).before a0 Z = true ∨ (Jvm.Cond.fieldLinkNest y.cls i R0 n d host).before a0 Z = true) (via : Via Z R0 O n d) (F : Fld Z h a O n d old) (E : Exa Z h a C)
    (L : (Jvm.Cond.lays C O n d).before a0 Z = true ∨ ((Jvm.Cond.laysFinal C O n d).before a0 Z = true ∧ y.cls = O ∧ y.name = "<init>")) (wi : (Jvm.Cond.instantiable C kk).before a0 Z = true)
    (hty : parseFieldDescriptor d = some ty) (hn : narrow ty v = v) (hf : fits ty v = true) (hd : decode bytes pc = .ok (.putfield i, 3)) (hp : pc + 3 = pc') (ha : n0 ≤ a)
    (w : ∀ h', Wr h h' a (RoadKit.slotOf Z O n d) v → WP k h' cells slots pc' ls st) : WP k h cells slots pc ls (v :: .ref a :: st) := by
  subst hp
  intro T locs X e N
  obtain ⟨T', h', X', e', W', stp⟩ := putF X K.hx K.hZ K.hown hw via e F E (L.imp id fun q => ⟨q.1, q.2.1, by rw [K.hnm]; exact q.2.2⟩) wi hty hn hf (g := mkF k.m pc ls.toArray (v :: .ref a :: st)) rfl rfl (K.dec hd)
  exact End.back stp (w h' W' T' _ X' e' (Fr.snoc X' N (by rw [K.hn0]; exact ha)))
theorem WP.new (K : Ok k l Z n0 rm bytes maxL y ret Q) {i n : Nat} {C : String} (pc' cells' slots' : Nat) (h1 : (Jvm.Cond.classLink y.cls i C).before a0 Z = true) (h2 : (Jvm.Cond.instantiable C n).before a0 Z = true) (h3 : (Jvm.Cond.initialized C).before a0 Z = true) (hd : decode bytes pc = .ok (.new i, 3)) (hp : pc + 3 = pc')
    (hc : cells + 1 = cells') (hs : slots + n = slots') (hc' : cells' ≤ rm.cells) (hs' : slots' ≤ rm.slots)
    (w : ∀ h' a, a = h.size → Ext h h' → Exa Z h' a C → (∀ {O nm d : String} {ty : FieldType}, Laid Z a0 C O nm d → parseFieldDescriptor d = some ty → Fld Z h' a O nm d (defaultValue ty)) → WP k h' cells' slots' pc' ls (.ref a :: st)) : WP k h cells slots pc ls st := by
  subst hp hc hs
  intro T locs X e N
  obtain ⟨T', h', X', e', E', A', D', -, stp⟩ := newO X K.hx K.hZ K.hown h1 h2 h3 e (g := mkF k.m pc ls.toArray st) rfl (K.dec hd) (by rw [K.hR]; exact hc') (by rw [K.hR]; exact hs')
  exact End.back stp (w h' _ rfl E' A' D' T' locs X' e' N)
/-- Object.<init> -/
theorem WP.initO (K : Ok k l Z n0 rm bytes maxL y ret Q) {i : Nat} (pc' W : Nat) (h1 : (Jvm.Cond.methodLink y.cls i Lib.objectInit).before a0 Z = true) (h2 : (Jvm.Cond.instanceMethod Lib.objectInit).before a0 Z = true) (h3 : (Jvm.Cond.code Lib.objectInit ⟨#[0xb1]⟩ 1 none).before a0 Z = true) (hd : decode bytes pc = .ok (.invokespecial i, 3)) (hp : pc + 3 = pc')
    (hsz : ls.length = maxL) (hf : 1 ≤ rm.frames) (hW : (st.map fun v => v.category).sum ≤ W) (hl : W + 12 ≤ rm.locals) (w : WP k h cells slots pc' ls st) : WP k h cells slots pc ls (.ref a :: st) := by
  subst hp
  intro T locs X e N
  obtain ⟨T', X', e', stp⟩ := RoadKit.initO X K.hx K.hZ K.hown h1 h2 h3 e (g := mkF k.m pc ls.toArray (.ref a :: st)) rfl (by rw [K.hml]; simpa using hsz) rfl (K.dec hd) (by rw [K.hR]; exact hf) (W := W) (by show 2 * 0 + _ ≤ _; omega) (by rw [K.hR]; exact hl)
  exact End.back stp (w T' locs X' e' N)
/-! arrays -/
def ArV (Z : State) (h : Heap) (a : Addr) (ty : FieldType) (vs : List Value) : Prop := ∃ c : Cell, Arr Z h a c ty ∧ c.slots.toList = vs ∧ vs.length < 2 ^ 31 ∧ ∀ v ∈ vs, fits ty v = true
def ArI (Z : State) (h : Heap) (a : Addr) (xs : List Int32) : Prop := ArV Z h a .int (xs.map Value.int)
def ArJ (Z : State) (h : Heap) (a : Addr) (xs : List Int64) : Prop := ArV Z h a .long (xs.map Value.long)
def ArB (Z : State) (h : Heap) (a : Addr) (xs : List Int8) : Prop := ArV Z h a .byte (xs.map fun x => Value.int x.toInt32)
variable {ty : FieldType} {vs : List Value}
theorem ArV.lt (A : ArV Z h a ty vs) : a < h.size := by obtain ⟨c, A, -⟩ := A; exact A.lt
theorem ArV.keep {ws : List Addr} (A : ArV Z h a ty vs) (K : Keep h h' ws) (q : a ∉ ws) : ArV Z h' a ty vs := by
  obtain ⟨c, A, r⟩ := A
  exact ⟨c, ⟨K.2.1 a c A.1 q, A.2⟩, r⟩
theorem ArV.ext (A : ArV Z h a ty vs) (E : Ext h h') : ArV Z h' a ty vs := by
  obtain ⟨c, A, r⟩ := A
  exact ⟨c, A.ext E, r⟩
theorem ArV.set {i : Nat} {v : Value} (A : ArV Z h a ty vs) (W : Wr h h' a i v) (hf : fits ty v = true) : ArV Z h' a ty (vs.set i v) := by
  obtain ⟨c, A, q1, q2, q3⟩ := A
  refine ⟨c.setSlot i v, A.same W, ?_, by simpa using q2, fun u hu => ?_⟩
  · simp [Cell.setSlot, q1]
  · rcases List.mem_or_eq_of_mem_set hu with z | rfl
    · exact q3 u z
    · exact hf
theorem ArV.other {i : Nat} {v : Value} (A : ArV Z h a ty vs) (W : Wr h h' b i v) (q : a ≠ b) : ArV Z h' a ty vs := by
  obtain ⟨c, A, r⟩ := A
  exact ⟨c, A.other W q, r⟩
theorem ArV.new {cA : ClassId} {n : Int32} {m : Nat} (A : Arr Z h a (newA cA ty n) ty) (hn : n.toInt = (m : Nat)) (hf : fits ty (defaultValue ty) = true) : ArV Z h a ty (List.replicate m (defaultValue ty)) := by
  have e : n.toNatClampNeg = m := by simp only [Int32.toNatClampNeg]; omega
  refine ⟨_, A, ?_, ?_, fun v hv => ?_⟩
  · simp [newA, e]
  · have := n.toInt_lt; simp; omega
  · rw [List.eq_of_mem_replicate hv]; exact hf
theorem idx_ok {j : Int32} {i n : Nat} (hj : j.toInt = (i : Nat)) (hi : i < n) : ¬ (j < 0 ∨ n ≤ j.toNatClampNeg) ∧ j.toNatClampNeg = i := by
  have e : j.toNatClampNeg = i := by simp only [Int32.toNatClampNeg]; omega
  refine ⟨?_, e⟩
  rw [e, Int32.lt_iff_toInt_lt, show (0 : Int32).toInt = 0 from rfl]; omega
theorem size_eq {z : Int32} {n : Nat} (hz : z.toInt = (n : Nat)) : n.toInt32 = z := by
  have e : n = z.toNatClampNeg := by simp only [Int32.toNatClampNeg]; omega
  have := (back32 (n := z) (by rw [Int32.lt_iff_toInt_lt, show (0 : Int32).toInt = 0 from rfl]; omega)).1
  rw [← e] at this; exact this
theorem ArV.parts {i : Nat} {v : Value} (A : ArV Z h a ty vs) (hv : vs[i]? = some v) : ∃ c : Cell, Arr Z h a c ty ∧ i < c.slots.size ∧ c.slots[i]? = some v := by
  obtain ⟨c, A, q1, -⟩ := A
  have : i < vs.length := (List.getElem?_eq_some_iff.mp hv).1
  refine ⟨c, A, ?_, ?_⟩
  · rw [← q1] at this; simpa using this
  · rw [← q1] at hv; simpa using hv
theorem WP.arraylength (K : Ok k l Z n0 rm bytes maxL y ret Q) (z : Int32) (pc' : Nat) (A : ArV Z h a ty vs) (hz : z.toInt = (vs.length : Nat)) (hd : decode bytes pc = .ok (.arraylength, 1)) (hp : pc + 1 = pc') (w : WP k h cells slots pc' ls (.int z :: st)) : WP k h cells slots pc ls (.ref a :: st) := by
  subst hp
  intro T locs X e N
  obtain ⟨c, A, q1, -⟩ := A
  have es : c.slots.size.toInt32 = z := size_eq (by rw [hz, ← q1]; simp)
  refine End.back (fun t q => ?_) (w T locs X e N)
  exact Stand.arraylength X K.hx (cell := c) (by rw [e]; exact A.1) (State.isArrayOf_alike K.hZ.alike A.2.1) (g := mkF k.m pc ls.toArray (.ref a :: st)) rfl rfl (K.dec hd) _ (by rw [es]; exact q)
theorem WP.iaload (K : Ok k l Z n0 rm bytes maxL y ret Q) {xs : List Int32} {j x : Int32} (pc' i : Nat) (A : ArI Z h a xs) (hj : j.toInt = (i : Nat)) (hx : xs[i]? = some x) (hd : decode bytes pc = .ok (.iaload, 1)) (hp : pc + 1 = pc') (w : WP k h cells slots pc' ls (.int x :: st)) : WP k h cells slots pc ls (.int j :: .ref a :: st) := by
  subst hp
  intro T locs X e N
  obtain ⟨c, A, q1, q2⟩ := ArV.parts A (i := i) (v := .int x) (by simp [hx])
  obtain ⟨r1, r2⟩ := idx_ok hj q1
  refine End.back (fun t q => ?_) (w T locs X e N)
  exact Stand.iaload X K.hx (j := j) (v := .int x) (by rw [e]; exact A.1) (State.isArrayOf_alike K.hZ.alike A.2.1) A.2.2 r1 (by rw [r2]; exact q2) (g := mkF k.m pc ls.toArray (.int j :: .ref a :: st)) rfl rfl (K.dec hd) _ q
theorem WP.laload (K : Ok k l Z n0 rm bytes maxL y ret Q) {xs : List Int64} {j : Int32} {x : Int64} (pc' i : Nat) (A : ArJ Z h a xs) (hj : j.toInt = (i : Nat)) (hx : xs[i]? = some x) (hd : decode bytes pc = .ok (.laload, 1)) (hp : pc + 1 = pc') (w : WP k h cells slots pc' ls (.long x :: st)) : WP k h cells slots pc ls (.int j :: .ref a :: st) := by
  subst hp
  intro T locs X e N
  obtain ⟨c, A, q1, q2⟩ := ArV.parts A (i := i) (v := .long x) (by simp [hx])
  obtain ⟨r1, r2⟩ := idx_ok hj q1
  refine End.back (fun t q => ?_) (w T locs X e N)
  exact Stand.laload X K.hx (j := j) (v := .long x) (by rw [e]; exact A.1) (State.isArrayOf_alike K.hZ.alike A.2.1) A.2.2 r1 (by rw [r2]; exact q2) (g := mkF k.m pc ls.toArray (.int j :: .ref a :: st)) rfl rfl (K.dec hd) _ q
theorem WP.baload (K : Ok k l Z n0 rm bytes maxL y ret Q) {xs : List Int8} {j : Int32} {x : Int8} (pc' i : Nat) (A : ArB Z h a xs) (hj : j.toInt = (i : Nat)) (hx : xs[i]? = some x) (hd : decode bytes pc = .ok (.baload, 1)) (hp : pc + 1 = pc') (w : WP k h cells slots pc' ls (.int x.toInt32 :: st)) : WP k h cells slots pc ls (.int j :: .ref a :: st) := by
  subst hp
  intro T locs X e N
  obtain ⟨c, A, q1, q2⟩ := ArV.parts A (i := i) (v := .int x.toInt32) (by simp [hx])
  obtain ⟨r1, r2⟩ := idx_ok hj q1
  refine End.back (fun t q => ?_) (w T locs X e N)
  exact Stand.baloadBytes X K.hx (j := j) (v := .int x.toInt32) (by rw [e]; exact A.1) (State.isArrayOf_alike K.hZ.alike A.2.1) A.2.2 r1 (by rw [r2]; exact q2) (g := mkF k.m pc ls.toArray (.int j :: .ref a :: st)) rfl rfl (K.dec hd) _ q
theorem WP.aaload (K : Ok k l Z n0 rm bytes maxL y ret Q) {j : Int32} {x : Value} (pc' i : Nat) (A : ArV Z h a ty vs) (hty : ty.isReference = true) (hj : j.toInt = (i : Nat)) (hx : vs[i]? = some x) (hd : decode bytes pc = .ok (.aaload, 1)) (hp : pc + 1 = pc') (w : WP k h cells slots pc' ls (x :: st)) : WP k h cells slots pc ls (.int j :: .ref a :: st) := by
  subst hp
  intro T locs X e N
  obtain ⟨c, A, q1, q2⟩ := ArV.parts A (i := i) hx
  obtain ⟨r1, r2⟩ := idx_ok hj q1
  refine End.back (fun t q => ?_) (w T locs X e N)
  exact Stand.aaload X K.hx (j := j) (v := x) (by rw [e]; exact A.1) (State.isArrayOf_alike K.hZ.alike A.2.1) hty A.2.2 r1 (by rw [r2]; exact q2) (g := mkF k.m pc ls.toArray (.int j :: .ref a :: st)) rfl rfl (K.dec hd) _ q
theorem WP.iastore (K : Ok k l Z n0 rm bytes maxL y ret Q) {xs : List Int32} {j x : Int32} (pc' i : Nat) (A : ArI Z h a xs) (hj : j.toInt = (i : Nat)) (hi : i < xs.length) (hd : decode bytes pc = .ok (.iastore, 1)) (hp : pc + 1 = pc') (ha : n0 ≤ a)
    (w : ∀ h', Keep h h' [a] → ArI Z h' a (xs.set i x) → WP k h' cells slots pc' ls st) : WP k h cells slots pc ls (.int x :: .int j :: .ref a :: st) := by
  subst hp
  intro T locs X e N
  have A0 := A
  obtain ⟨c, A', q1, -⟩ := A
  obtain ⟨r1, r2⟩ := idx_ok hj (show i < c.slots.size by have := congrArg List.length q1; simp at this; omega)
  obtain ⟨T', h', X', e', W', stp⟩ := stI X K.hx K.hZ e A' r1 (x := x) (g := mkF k.m pc ls.toArray (.int x :: .int j :: .ref a :: st)) rfl rfl (K.dec hd)
  rw [r2] at W'
  have A2 := ArV.set A0 W' rfl
  rw [← List.map_set] at A2
  exact End.back stp (w h' (Keep.of_wr W') A2 T' _ X' e' (Fr.snoc X' N (by rw [K.hn0]; exact ha)))
theorem WP.lastore (K : Ok k l Z n0 rm bytes maxL y ret Q) {xs : List Int64} {j : Int32} {x : Int64} (pc' i : Nat) (A : ArJ Z h a xs) (hj : j.toInt = (i : Nat)) (hi : i < xs.length) (hd : decode bytes pc = .ok (.lastore, 1)) (hp : pc + 1 = pc') (ha : n0 ≤ a)
    (w : ∀ h', Keep h h' [a] → ArJ Z h' a (xs.set i x) → WP k h' cells slots pc' ls st) : WP k h cells slots pc ls (.long x :: .int j :: .ref a :: st) := by
  subst hp
  intro T locs X e N
  have A0 := A
  obtain ⟨c, A', q1, -⟩ := A
  obtain ⟨r1, r2⟩ := idx_ok hj (show i < c.slots.size by have := congrArg List.length q1; simp at this; omega)
  obtain ⟨T', h', X', e', W', stp⟩ := stJ X K.hx K.hZ e A' r1 (x := x) (g := mkF k.m pc ls.toArray (.long x :: .int j :: .ref a :: st)) rfl rfl (K.dec hd)
  rw [r2] at W'
  have A2 := ArV.set A0 W' rfl
  rw [← List.map_set] at A2
  exact End.back stp (w h' (Keep.of_wr W') A2 T' _ X' e' (Fr.snoc X' N (by rw [K.hn0]; exact ha)))
theorem WP.bastore (K : Ok k l Z n0 rm bytes maxL y ret Q) {xs : List Int8} {j x : Int32} (pc' i : Nat) (A : ArB Z h a xs) (hj : j.toInt = (i : Nat)) (hi : i < xs.length) (hd : decode bytes pc = .ok (.bastore, 1)) (hp : pc + 1 = pc') (ha : n0 ≤ a)
    (w : ∀ h', Keep h h' [a] → ArB Z h' a (xs.set i x.toInt8) → WP k h' cells slots pc' ls st) : WP k h cells slots pc ls (.int x :: .int j :: .ref a :: st) := by
  subst hp
  intro T locs X e N
  have A0 := A
  obtain ⟨c, A', q1, -⟩ := A
  obtain ⟨r1, r2⟩ := idx_ok hj (show i < c.slots.size by have := congrArg List.length q1; simp at this; omega)
  obtain ⟨T', h', X', e', W', stp⟩ := stB X K.hx K.hZ e A' r1 (x := x) (g := mkF k.m pc ls.toArray (.int x :: .int j :: .ref a :: st)) rfl rfl (K.dec hd)
  rw [r2] at W'
  have A2 : ArB Z h' a (xs.set i x.toInt8) := by
    have := ArV.set A0 W' (fits_nar_byte x)
    rw [show Value.int (nar .byte x) = (fun z : Int8 => Value.int z.toInt32) x.toInt8 from rfl, ← List.map_set] at this
    exact this
  exact End.back stp (w h' (Keep.of_wr W') A2 T' _ X' e' (Fr.snoc X' N (by rw [K.hn0]; exact ha)))
theorem WP.newarray (K : Ok k l Z n0 rm bytes maxL y ret Q) {aty : ArrayType} {n : Int32} (pc' m cap cells' slots' : Nat) (hw : (Jvm.Cond.arrayClass (newarray.typeOf aty)).before a0 Z = true) (hd : decode bytes pc = .ok (.newarray aty, 2)) (hp : pc + 2 = pc') (hn : n.toInt = (m : Nat)) (hcap : m ≤ cap) (hb : cap * 8 ≤ 536870912)
    (hc : cells + 1 = cells') (hs : slots + cap = slots') (hc' : cells' ≤ rm.cells) (hs' : slots' ≤ rm.slots)
    (w : ∀ h' a, a = h.size → Ext h h' → ArV Z h' a (newarray.typeOf aty) (List.replicate m (defaultValue (newarray.typeOf aty))) → WP k h' cells' slots' pc' ls (.ref a :: st)) : WP k h cells slots pc ls (.int n :: st) := by
  subst hp hc hs
  intro T locs X e N
  have hn' : ¬ n < 0 := by rw [Int32.lt_iff_toInt_lt, show (0 : Int32).toInt = 0 from rfl]; omega
  obtain ⟨T', h', cA, X', e', E', A', stp⟩ := newP X K.hx K.hZ hw e (g := mkF k.m pc ls.toArray (.int n :: st)) rfl (K.dec hd) rfl hn' (cap := cap) (by simp only [Int32.toNatClampNeg]; omega) hb (by rw [K.hR]; exact hc') (by rw [K.hR]; exact hs')
  exact End.back stp (w h' _ rfl E' (ArV.new A' hn (by cases aty <;> rfl)) T' locs X' e' N)
theorem WP.newarrayE (K : Ok k l Z n0 rm bytes maxL y ret Q) {aty : ArrayType} {n : Int32} {ad : String} (pc' m cap cells' slots' : Nat) (hw : (Jvm.Cond.arrayClass (newarray.typeOf aty)).before a0 Z = true) (hd : decode bytes pc = .ok (.newarray aty, 2)) (hp : pc + 2 = pc') (hn : n.toInt = (m : Nat)) (hcap : m ≤ cap) (hb : cap * 8 ≤ 536870912)
    (hc : cells + 1 = cells') (hs : slots + cap = slots') (hc' : cells' ≤ rm.cells) (hs' : slots' ≤ rm.slots) (had : "[" ++ (newarray.typeOf aty).toString = ad)
    (w : ∀ h' a, a = h.size → Ext h h' → ArV Z h' a (newarray.typeOf aty) (List.replicate m (defaultValue (newarray.typeOf aty))) → Exa Z h' a ad → WP k h' cells' slots' pc' ls (.ref a :: st)) : WP k h cells slots pc ls (.int n :: st) := by
  subst hp hc hs
  intro T locs X e N
  have hn' : ¬ n < 0 := by rw [Int32.lt_iff_toInt_lt, show (0 : Int32).toInt = 0 from rfl]; omega
  obtain ⟨T', h', cA, X', e', E', A', XA, stp⟩ := newPE X K.hx K.hZ hw e (g := mkF k.m pc ls.toArray (.int n :: st)) rfl (K.dec hd) rfl hn' (cap := cap) (by simp only [Int32.toNatClampNeg]; omega) hb (by rw [K.hR]; exact hc') (by rw [K.hR]; exact hs') had
  exact End.back stp (w h' _ rfl E' (ArV.new A' hn (by cases aty <;> rfl)) XA T' locs X' e' N)
/-! arrays of references -/
def ArR (Z : State) (h : Heap) (a : Addr) (ty : FieldType) (C : String) (vs : List Value) : Prop := ∃ c : Cell, Arr Z h a c ty ∧ c.slots.toList = vs ∧ vs.length < 2 ^ 31 ∧ (∀ v ∈ vs, fits ty v = true) ∧ ∃ (kk : Class) (comp : ClassId) (t : FieldType), Z.vm.classes[c.cls]? = some kk ∧ kk.kind = .array comp t ∧ Z.vm.findClass C = some comp
variable {C : String}
theorem ArR.v (A : ArR Z h a ty C vs) : ArV Z h a ty vs := by obtain ⟨c, q1, q2, q3, q4, -⟩ := A; exact ⟨c, q1, q2, q3, q4⟩
theorem ArR.lt (A : ArR Z h a ty C vs) : a < h.size := A.v.lt
theorem ArR.len (A : ArR Z h a ty C vs) : vs.length < 2 ^ 31 := by obtain ⟨c, -, -, q, -⟩ := A; exact q
theorem ArR.keep {ws : List Addr} (A : ArR Z h a ty C vs) (K : Keep h h' ws) (q : a ∉ ws) : ArR Z h' a ty C vs := by
  obtain ⟨c, A, r⟩ := A
  exact ⟨c, ⟨K.2.1 a c A.1 q, A.2⟩, r⟩
theorem ArR.ext (A : ArR Z h a ty C vs) (E : Ext h h') : ArR Z h' a ty C vs := by
  obtain ⟨c, A, r⟩ := A
  exact ⟨c, A.ext E, r⟩
theorem ArR.other {i : Nat} {v : Value} (A : ArR Z h a ty C vs) (W : Wr h h' b i v) (q : a ≠ b) : ArR Z h' a ty C vs := by
  obtain ⟨c, A, r⟩ := A
  exact ⟨c, A.other W q, r⟩
theorem ArR.sto {x : Addr} (A : ArR Z h a ty C vs) (I : Ins Z h x C true) : Sto Z h a (.ref x) := by
  obtain ⟨c, A, -, -, -, kk, comp, t, o1, o2, o3⟩ := A
  obtain ⟨cv, cT, i1, i2, i3⟩ := I
  cases o3.symm.trans i2
  simp only [Bool.and_eq_true, Bool.not_eq_true'] at i3
  obtain ⟨kc, q⟩ := Vm.classAt_of_findClass o3
  obtain ⟨kv, q2⟩ := Vm.classAt_of_assignable i3.2 ⟨kc, q⟩
  exact Or.inr ⟨c, cv, kk, kv, kc, _, _, x, A.1, o1, o2, q, rfl, i1, i3.1, q2, i3.2⟩
theorem WP.aastore (K : Ok k l Z n0 rm bytes maxL y ret Q) {j : Int32} {v : Value} (pc' i : Nat) (A : ArR Z h a ty C vs) (hty : ty.isReference = true) (F : Sto Z h a v) (hf : fits ty v = true) (hj : j.toInt = (i : Nat)) (hi : i < vs.length) (hd : decode bytes pc = .ok (.aastore, 1)) (hp : pc + 1 = pc') (ha : n0 ≤ a)
    (w : ∀ h', Keep h h' [a] → ArR Z h' a ty C (vs.set i v) → WP k h' cells slots pc' ls st) : WP k h cells slots pc ls (v :: .int j :: .ref a :: st) := by
  subst hp
  intro T locs X e N
  obtain ⟨c, A', q1, q2, q3, q4⟩ := A
  obtain ⟨r1, r2⟩ := idx_ok hj (show i < c.slots.size by have := congrArg List.length q1; simp at this; omega)
  obtain ⟨T', h', X', e', W', stp⟩ := stR X K.hx K.hZ e A' r1 hty F (g := mkF k.m pc ls.toArray (v :: .int j :: .ref a :: st)) rfl rfl (K.dec hd)
  rw [r2] at W'
  have A2 : ArR Z h' a ty C (vs.set i v) := by
    refine ⟨c.setSlot i v, A'.same W', by simp [Cell.setSlot, q1], by simpa using q2, fun u hu => ?_, q4⟩
    rcases List.mem_or_eq_of_mem_set hu with z | rfl
    · exact q3 u z
    · exact hf
  exact End.back stp (w h' (Keep.of_wr W') A2 T' _ X' e' (Fr.snoc X' N (by rw [K.hn0]; exact ha)))
theorem new_ref {cA : ClassId} {n : Int32} {m : Nat} (A : Arr Z h a (newA cA ty n) ty) (hr : ty.isReference = true) (hn : n.toInt = (m : Nat)) (O : ∃ (kk : Class) (comp : ClassId) (t : FieldType), Z.vm.classes[cA]? = some kk ∧ kk.kind = .array comp t ∧ Z.vm.findClass C = some comp) : ArR Z h a ty C (List.replicate m .null) := by
  have e : n.toNatClampNeg = m := by simp only [Int32.toNatClampNeg]; omega
  have d : defaultValue ty = .null := by cases ty <;> simp [FieldType.isReference] at hr <;> rfl
  refine ⟨_, A, ?_, ?_, fun v hv => ?_, O⟩
  · simp [newA, e, d]
  · have := n.toInt_lt; simp; omega
  · rw [List.eq_of_mem_replicate hv]; cases ty <;> simp [FieldType.isReference] at hr <;> rfl
theorem WP.anewarrayA (K : Ok k l Z n0 rm bytes maxL y ret Q) {i : Nat} {et : FieldType} {n : Int32} (pc' m cap cells' slots' : Nat) (hC : (FieldType.array et).toString = C) (h1 : (Jvm.Cond.classLink y.cls i C).before a0 Z = true) (h2 : (Jvm.Cond.arrayOver (.array et)).before a0 Z = true) (hd : decode bytes pc = .ok (.anewarray i, 3)) (hp : pc + 3 = pc') (hn : n.toInt = (m : Nat)) (hcap : m ≤ cap) (hb : cap * 8 ≤ 536870912)
    (hc : cells + 1 = cells') (hs : slots + cap = slots') (hc' : cells' ≤ rm.cells) (hs' : slots' ≤ rm.slots)
    (w : ∀ h' a, a = h.size → Ext h h' → ArR Z h' a (.array et) C (List.replicate m .null) → WP k h' cells' slots' pc' ls (.ref a :: st)) : WP k h cells slots pc ls (.int n :: st) := by
  subst hp hc hs
  intro T locs X e N
  have hn' : ¬ n < 0 := by rw [Int32.lt_iff_toInt_lt, show (0 : Int32).toInt = 0 from rfl]; omega
  obtain ⟨T', h', cA, X', e', E', A', -, O, stp⟩ := newRA X K.hx K.hZ K.hown hC h1 h2 e (g := mkF k.m pc ls.toArray (.int n :: st)) rfl (K.dec hd) rfl hn' (cap := cap) (by simp only [Int32.toNatClampNeg]; omega) hb (by rw [K.hR]; exact hc') (by rw [K.hR]; exact hs') (ad := "[" ++ C) rfl
  obtain ⟨kk, comp, o1, o2, o3⟩ := O
  exact End.back stp (w h' _ rfl E' (new_ref A' rfl hn ⟨kk, comp, _, o1, o2, o3⟩) T' locs X' e' N)
theorem WP.anewarrayO (K : Ok k l Z n0 rm bytes maxL y ret Q) {i : Nat} {n : Int32} (pc' m cap cells' slots' : Nat) (h1 : (Jvm.Cond.classLink y.cls i C).before a0 Z = true) (h2 : (Jvm.Cond.arrayOver (.object C)).before a0 Z = true) (hd : decode bytes pc = .ok (.anewarray i, 3)) (hp : pc + 3 = pc') (hn : n.toInt = (m : Nat)) (hcap : m ≤ cap) (hb : cap * 8 ≤ 536870912)
    (hc : cells + 1 = cells') (hs : slots + cap = slots') (hc' : cells' ≤ rm.cells) (hs' : slots' ≤ rm.slots)
    (w : ∀ h' a, a = h.size → Ext h h' → ArR Z h' a (.object C) C (List.replicate m .null) → WP k h' cells' slots' pc' ls (.ref a :: st)) : WP k h cells slots pc ls (.int n :: st) := by
  subst hp hc hs
  intro T locs X e N
  have hn' : ¬ n < 0 := by rw [Int32.lt_iff_toInt_lt, show (0 : Int32).toInt = 0 from rfl]; omega
  obtain ⟨T', h', cA, X', e', E', A', O, stp⟩ := newR X K.hx K.hZ K.hown h1 h2 e (g := mkF k.m pc ls.toArray (.int n :: st)) rfl (K.dec hd) rfl hn' (cap := cap) (by simp only [Int32.toNatClampNeg]; omega) hb (by rw [K.hR]; exact hc') (by rw [K.hR]; exact hs')
  obtain ⟨kk, comp, o1, o2, o3⟩ := O
  exact End.back stp (w h' _ rfl E' (new_ref A' rfl hn ⟨kk, comp, _, o1, o2, o3⟩) T' locs X' e' N)
theorem ArI.of_new {m : Nat} (A : ArV Z h a (newarray.typeOf .int) (List.replicate m (defaultValue (newarray.typeOf .int)))) : ArI Z h a (List.replicate m 0) := by
  unfold ArI; rw [List.map_replicate]; exact A
theorem ArJ.of_new {m : Nat} (A : ArV Z h a (newarray.typeOf .long) (List.replicate m (defaultValue (newarray.typeOf .long)))) : ArJ Z h a (List.replicate m 0) := by
  unfold ArJ; rw [List.map_replicate]; exact A
theorem ArB.of_new {m : Nat} (A : ArV Z h a (newarray.typeOf .byte) (List.replicate m (defaultValue (newarray.typeOf .byte)))) : ArB Z h a (List.replicate m 0) := by
  unfold ArB; rw [List.map_replicate]; exact A
theorem ArI.len {xs : List Int32} (A : ArI Z h a xs) : xs.length < 2 ^ 31 := by obtain ⟨c, -, -, q, -⟩ := A; simpa using q
theorem ArJ.len {xs : List Int64} (A : ArJ Z h a xs) : xs.length < 2 ^ 31 := by obtain ⟨c, -, -, q, -⟩ := A; simpa using q
theorem ArB.len {xs : List Int8} (A : ArB Z h a xs) : xs.length < 2 ^ 31 := by obtain ⟨c, -, -, q, -⟩ := A; simpa using q
theorem ArI.lt {xs : List Int32} (A : ArI Z h a xs) : a < h.size := ArV.lt A
theorem ArI.keep {xs : List Int32} {ws : List Addr} (A : ArI Z h a xs) (K : Keep h h' ws) (q : a ∉ ws) : ArI Z h' a xs := ArV.keep A K q
theorem ArI.ext {xs : List Int32} (A : ArI Z h a xs) (E : Ext h h') : ArI Z h' a xs := ArV.ext A E
theorem ArI.other {xs : List Int32} {i : Nat} {v : Value} (A : ArI Z h a xs) (W : Wr h h' b i v) (q : a ≠ b) : ArI Z h' a xs := ArV.other A W q
theorem ArJ.lt {xs : List Int64} (A : ArJ Z h a xs) : a < h.size := ArV.lt A
theorem ArJ.keep {xs : List Int64} {ws : List Addr} (A : ArJ Z h a xs) (K : Keep h h' ws) (q : a ∉ ws) : ArJ Z h' a xs := ArV.keep A K q
theorem ArJ.ext {xs : List Int64} (A : ArJ Z h a xs) (E : Ext h h') : ArJ Z h' a xs := ArV.ext A E
theorem ArJ.other {xs : List Int64} {i : Nat} {v : Value} (A : ArJ Z h a xs) (W : Wr h h' b i v) (q : a ≠ b) : ArJ Z h' a xs := ArV.other A W q
theorem ArB.lt {xs : List Int8} (A : ArB Z h a xs) : a < h.size := ArV.lt A
theorem ArB.keep {xs : List Int8} {ws : List Addr} (A : ArB Z h a xs) (K : Keep h h' ws) (q : a ∉ ws) : ArB Z h' a xs := ArV.keep A K q
theorem ArB.ext {xs : List Int8} (A : ArB Z h a xs) (E : Ext h h') : ArB Z h' a xs := ArV.ext A E
theorem ArB.other {xs : List Int8} {i : Nat} {v : Value} (A : ArB Z h a xs) (W : Wr h h' b i v) (q : a ≠ b) : ArB Z h' a xs := ArV.other A W q
/-! calls by contract -/
theorem WP.callS (K : Ok k l Z n0 rm bytes maxL y ret Q) {i maxL' : Nat} {y' : MethodName} {bytes' : ByteArray} {ret' : Option FieldType} {rm' : Room} {as : Array Value} {Q' : Option Value → Heap → Prop} {ps : List FieldType} {rt : Option FieldType} (pc' cells' slots' W : Nat) (argsL rest : List Value)
    (h1 : (Jvm.Cond.methodLink y.cls i y').before a0 Z = true) (h2 : (Jvm.Cond.static y').before a0 Z = true) (h3 : (Jvm.Cond.initialized y'.cls).before a0 Z = true) (h4 : (Jvm.Cond.code y' bytes' maxL' ret').before a0 Z = true)
    (hy : y'.cls ≠ "java/lang/invoke/MethodHandle" ∧ y'.cls ≠ "java/lang/invoke/VarHandle") (hpd : parseMethodDescriptor y'.desc = some ⟨ps, rt⟩) (hlen : argsL.length = ps.length) (has : argsL.toArray = as) (hst : argsL.reverse ++ rest = st)
    (hf : rm'.frames + 1 ≤ rm.frames) (hl : W + (maxL' + 11) + rm'.locals ≤ rm.locals) (hW : (rest.map fun v => v.category).sum ≤ W) (hsz : ls.length = maxL) (hd : decode bytes pc = .ok (.invokestatic i, 3)) (hp : pc + 3 = pc')
    (hc : cells + rm'.cells = cells') (hs : slots + rm'.slots = slots') (hc' : cells' ≤ rm.cells) (hs' : slots' ≤ rm.slots) (C : Con l Z y' bytes' maxL' ret' rm' n0 as h Q')
    (w : ∀ v h', Q' v h' → WP k h' cells' slots' pc' ls (v.toList ++ rest)) : WP k h cells slots pc ls st := by
  subst hp hc hs hst has
  obtain ⟨hx, hZ, rfl, hby, hml, hown, hret, hlk, hnm, rfl, rfl, rfl, rfl, hfin⟩ := K
  intro T locs X e N
  obtain ⟨v, vm1, ⟨T', L', k', n'⟩, -, X', ⟨Lc, ⟨hQ, hN⟩, l', y'', z'⟩, stp⟩ := Jvm.LawKit.callS X hx hown (mvT hZ h1) (mvT hZ h2) (mvT hZ h3) (mvT hZ h4) hy (backOf (W := W) (Q := fun v h L => Q' v h ∧ Fr k.n0 L) (C []) hZ h4 h3 hf hl) (g := mkF k.m pc ls.toArray (argsL.reverse ++ rest)) rfl (by rw [hml]; simpa using hsz) (lenOf hpd hlen) rfl (by show 2 * 0 + _ ≤ _; omega) (hb hby hd) (fun _ _ => ⟨rfl, e, hc', hs'⟩)
  dsimp only [Pt.U, Pt.locs, Pt.cells, Pt.slots] at X' l' y'' z' stp hQ
  subst l' y'' z'
  exact End.back stp (w v _ hQ T' _ X' rfl (Fr.app N hN))
theorem WP.callI (K : Ok k l Z n0 rm bytes maxL y ret Q) {i maxL' : Nat} {y' : MethodName} {bytes' : ByteArray} {rm' : Room} {as : Array Value} {Q' : Option Value → Heap → Prop} {ps : List FieldType} {rt : Option FieldType} (pc' cells' slots' W : Nat) (argsL rest : List Value)
    (h1 : (Jvm.Cond.methodLink y.cls i y').before a0 Z = true) (h2 : (Jvm.Cond.instanceMethod y').before a0 Z = true) (h3 : (Jvm.Cond.initialized y'.cls).before a0 Z = true) (h4 : (Jvm.Cond.code y' bytes' maxL' none).before a0 Z = true) (hy1 : y'.name = "<init>")
    (hy : y'.cls ≠ "java/lang/invoke/MethodHandle" ∧ y'.cls ≠ "java/lang/invoke/VarHandle") (hpd : parseMethodDescriptor y'.desc = some ⟨ps, rt⟩) (hlen : argsL.length = ps.length) (has : (.ref a :: argsL).toArray = as) (hst : argsL.reverse ++ .ref a :: rest = st)
    (hf : rm'.frames + 1 ≤ rm.frames) (hl : W + (maxL' + 11) + rm'.locals ≤ rm.locals) (hW : (rest.map fun v => v.category).sum ≤ W) (hsz : ls.length = maxL) (hd : decode bytes pc = .ok (.invokespecial i, 3)) (hp : pc + 3 = pc')
    (hc : cells + rm'.cells = cells') (hs : slots + rm'.slots = slots') (hc' : cells' ≤ rm.cells) (hs' : slots' ≤ rm.slots) (C : Con l Z y' bytes' maxL' none rm' n0 as h Q')
    (w : ∀ v h', Q' v h' → WP k h' cells' slots' pc' ls (v.toList ++ rest)) : WP k h cells slots pc ls st := by
  subst hp hc hs hst has
  obtain ⟨hx, hZ, rfl, hby, hml, hown, hret, hlk, hnm, rfl, rfl, rfl, rfl, hfin⟩ := K
  intro T locs X e N
  obtain ⟨v, vm1, ⟨T', L', k', n'⟩, -, X', ⟨Lc, ⟨hQ, hN⟩, l', y'', z'⟩, stp⟩ := Stand.specialBack X hx hy1 hown (mvT hZ h1) (mvT hZ h2) (mvT hZ h4) hy (backOf (W := W) (Q := fun v h L => Q' v h ∧ Fr k.n0 L) (C []) hZ h4 h3 hf hl) (g := mkF k.m pc ls.toArray (argsL.reverse ++ .ref a :: rest)) rfl (by rw [hml]; simpa using hsz) (Steps.refl _) (a := a) (argsL := argsL) (rest := rest) (lenOf hpd hlen) rfl (by show 2 * 0 + _ ≤ _; omega) (hb hby hd) (fun _ _ => ⟨rfl, e, hc', hs'⟩)
  dsimp only [Pt.U, Pt.locs, Pt.cells, Pt.slots] at X' l' y'' z' stp hQ
  subst l' y'' z'
  exact End.back (fun t q => stp.trans q) (w v _ hQ T' _ X' rfl (Fr.app N hN))
theorem WP.callV (K : Ok k l Z n0 rm bytes maxL y ret Q) {i maxL' : Nat} {y' z : MethodName} {C : String} {bytes' : ByteArray} {ret' : Option FieldType} {rm' : Room} {as : Array Value} {Q' : Option Value → Heap → Prop} {ps : List FieldType} {rt : Option FieldType} (pc' cells' slots' W : Nat) (argsL rest : List Value)
    (h1 : (Jvm.Cond.methodLink y.cls i y').before a0 Z = true) (h2 : (Jvm.Cond.declares y').before a0 Z = true) (hzy : z = y') (h5 : (Jvm.Cond.selects C y' z).before a0 Z = true) (h6 : (Jvm.Cond.instanceMethod z).before a0 Z = true) (h3 : (Jvm.Cond.initialized z.cls).before a0 Z = true) (h4 : (Jvm.Cond.code z bytes' maxL' ret').before a0 Z = true)
    (hy : y'.cls ≠ "java/lang/invoke/MethodHandle" ∧ y'.cls ≠ "java/lang/invoke/VarHandle") (hpd : parseMethodDescriptor y'.desc = some ⟨ps, rt⟩) (hlen : argsL.length = ps.length) (has : (.ref a :: argsL).toArray = as) (hst : argsL.reverse ++ .ref a :: rest = st)
    (hf : rm'.frames + 1 ≤ rm.frames) (hl : W + (maxL' + 11) + rm'.locals ≤ rm.locals) (hW : (rest.map fun v => v.category).sum ≤ W) (hsz : ls.length = maxL) (hd : decode bytes pc = .ok (.invokevirtual i, 3)) (hp : pc + 3 = pc')
    (hc : cells + rm'.cells = cells') (hs : slots + rm'.slots = slots') (hc' : cells' ≤ rm.cells) (hs' : slots' ≤ rm.slots) (E : Exa Z h a C) (Cn : Con l Z z bytes' maxL' ret' rm' n0 as h Q')
    (w : ∀ v h', Q' v h' → WP k h' cells' slots' pc' ls (v.toList ++ rest)) : WP k h cells slots pc ls st := by
  subst hzy hp hc hs hst has
  obtain ⟨hx, hZ, rfl, hby, hml, hown, hret, hlk, hnm, rfl, rfl, rfl, rfl, hfin⟩ := K
  intro T locs X e N
  obtain ⟨cq, kq, qa, qb, qc⟩ := isOf hZ e E
  obtain ⟨v, vm1, ⟨T', L', k', n'⟩, -, X', ⟨Lc, ⟨hQ, hN⟩, l', y'', z'⟩, stp⟩ := Stand.virtualBack X hx hown (mvT hZ h1) (mvT hZ h2) (notFace_of_selects (args := #[]) (mvT hZ h5)) (mvT hZ h5) (mvT hZ h6) hy (backOf (W := W) (Q := fun v h L => Q' v h ∧ Fr k.n0 L) (Cn []) hZ h4 h3 hf hl) qa qc (g := mkF k.m pc ls.toArray (argsL.reverse ++ .ref a :: rest)) rfl (by rw [hml]; simpa using hsz) (Steps.refl _) (argsL := argsL) (rest := rest) (lenOf hpd hlen) rfl (by show 2 * 0 + _ ≤ _; omega) (hb hby hd) (fun _ _ => ⟨rfl, e, hc', hs'⟩)
  dsimp only [Pt.U, Pt.locs, Pt.cells, Pt.slots] at X' l' y'' z' stp hQ
  subst l' y'' z'
  exact End.back (fun t q => stp.trans q) (w v _ hQ T' _ X' rfl (Fr.app N hN))
theorem r1_next {Q' : Value → Heap → Prop} {cells' slots' pc' : Nat} {rest : List Value} (w : ∀ r h', Q' r h' → WP k h' cells' slots' pc' ls (r :: rest)) : ∀ v h', R1 Q' v h' → WP k h' cells' slots' pc' ls (v.toList ++ rest) := fun v h' q => by
  obtain ⟨r, rfl, q⟩ := q; exact w r h' q
theorem r0_next {Q' : Heap → Prop} {cells' slots' pc' : Nat} {rest : List Value} (w : ∀ h', Q' h' → WP k h' cells' slots' pc' ls rest) : ∀ v h', R0 Q' v h' → WP k h' cells' slots' pc' ls (v.toList ++ rest) := fun v h' q => by
  obtain ⟨rfl, q⟩ := q; exact w h' q
end HeapSteps
end Jvm.OwnWP
namespace Jvm.OwnWP
theorem i32_of {n : Nat} (h : n < 2 ^ 31) : ∃ z : Int32, z.toInt = (n : Nat) := ⟨Int32.ofNat n, Int32.toInt_ofNat_of_lt h⟩
theorem i32_rng (x : Int32) : -2147483648 ≤ x.toInt ∧ x.toInt < 2147483648 := ⟨x.le_toInt, x.toInt_lt⟩
theorem i64_rng (x : Int64) : -9223372036854775808 ≤ x.toInt ∧ x.toInt < 9223372036854775808 := ⟨x.le_toInt, x.toInt_lt⟩
theorem i32_add {x y : Int32} (h1 : -2147483648 ≤ x.toInt + y.toInt) (h2 : x.toInt + y.toInt < 2147483648) : (x + y).toInt = x.toInt + y.toInt := Jvm.Free.XT.add32 ⟨by omega, by omega⟩
theorem i32_sub {x y : Int32} (h1 : -2147483648 ≤ x.toInt - y.toInt) (h2 : x.toInt - y.toInt < 2147483648) : (x - y).toInt = x.toInt - y.toInt := Jvm.Free.XT.sub32 ⟨by omega, by omega⟩
theorem i64_add {x y : Int64} (h1 : -9223372036854775808 ≤ x.toInt + y.toInt) (h2 : x.toInt + y.toInt < 9223372036854775808) : (x + y).toInt = x.toInt + y.toInt := Jvm.Free.XT.add64 ⟨by omega, by omega⟩
theorem i64_sub {x y : Int64} (h1 : -9223372036854775808 ≤ x.toInt - y.toInt) (h2 : x.toInt - y.toInt < 9223372036854775808) : (x - y).toInt = x.toInt - y.toInt := Jvm.Free.XT.sub64 ⟨by omega, by omega⟩
theorem inc32 {x : Int32} {n : Nat} (h : x.toInt = (n : Nat)) (hn : n < 2147483647) : (x + (1 : Int32)).toInt = ((n + 1 : Nat) : Int) := by
  have e1 : (1 : Int32).toInt = 1 := rfl
  rw [i32_add (by omega) (by omega)]; omega
theorem i32_eq {x y : Int32} (h : x.toInt = y.toInt) : x = y := Int32.toInt_inj.mp h
theorem i64_eq {x y : Int64} (h : x.toInt = y.toInt) : x = y := Int64.toInt_inj.mp h
theorem ite01 (P : Prop) [Decidable P] : ∃ t : Int, (if P then (1 : Int) else 0) = t ∧ (P → t = 1) ∧ (¬ P → t = 0) := by
  by_cases h : P
  · exact ⟨1, by simp [h], fun _ => rfl, fun q => absurd h q⟩
  · exact ⟨0, by simp [h], fun q => absurd q h, fun _ => rfl⟩
theorem i32_mul {x y : Int32} (h1 : -2147483648 ≤ x.toInt * y.toInt) (h2 : x.toInt * y.toInt < 2147483648) : (x * y).toInt = x.toInt * y.toInt := Jvm.Free.XT.mul32 ⟨by omega, by omega⟩
theorem st1 {ls : List Slot} {i : Nat} {o : Slot} {v : Value} (h : ls[i]? = some o) (ho : Jvm.RoadKit.One o) (hv : v.category = 1) : storeLocals ls.toArray i v = some (ls.set i (.val v)).toArray := by
  rw [Jvm.Free.XS.store1 (o := o) (by simpa using h) ho hv]; simp
theorem ushr1 {x : Int32} (h : 0 ≤ x.toInt) : (Jvm.Free.XT.ushr x 1).toInt = x.toInt / 2 := by
  have := Jvm.RoadKit.c_iushr x 1 1 rfl (by decide)
  have r := i32_rng x
  unfold Jvm.Free.XT.ushr
  rw [this]; omega
def min32 (x y : Int32) : Int32 := if x.toInt ≤ y.toInt then x else y
def max32 (x y : Int32) : Int32 := if x.toInt ≤ y.toInt then y else x
theorem min32_spec (x y : Int32) : (x.toInt ≤ y.toInt → (min32 x y).toInt = x.toInt) ∧ (y.toInt < x.toInt → (min32 x y).toInt = y.toInt) := by
  unfold min32; split <;> constructor <;> intro <;> first | rfl | omega
theorem max32_spec (x y : Int32) : (x.toInt ≤ y.toInt → (max32 x y).toInt = y.toInt) ∧ (y.toInt < x.toInt → (max32 x y).toInt = x.toInt) := by
  unfold max32; split <;> constructor <;> intro <;> first | rfl | omega
def min64 (x y : Int64) : Int64 := if x.toInt ≤ y.toInt then x else y
def max64 (x y : Int64) : Int64 := if x.toInt ≤ y.toInt then y else x
theorem min64_spec (x y : Int64) : (x.toInt ≤ y.toInt → (min64 x y).toInt = x.toInt) ∧ (y.toInt < x.toInt → (min64 x y).toInt = y.toInt) := by
  unfold min64; split <;> constructor <;> intro <;> first | rfl | omega
theorem max64_spec (x y : Int64) : (x.toInt ≤ y.toInt → (max64 x y).toInt = y.toInt) ∧ (y.toInt < x.toInt → (max64 x y).toInt = x.toInt) := by
  unfold max64; split <;> constructor <;> intro <;> first | rfl | omega
end Jvm.OwnWP

namespace Jvm.Pilot.@@N@@
open Jvm Jvm.ClassFile Sem Op Lib Jvm.Free Jvm.Stand Jvm.LawKit Jvm.RoadKit Bundle Jvm.OwnWP Jvm.Pilot.@@N@@.Jvm.D
def own_ls (f : Nat → Bool) (n : Nat) : List Int32 := ((List.range n).filter f).map Int32.ofNat
theorem own_ls_succ (f : Nat → Bool) (n : Nat) : own_ls f (n + 1) = own_ls f n ++ (if f n then [Int32.ofNat n] else []) := by
  unfold own_ls; rw [List.range_succ, List.filter_append, List.map_append]
  cases h : f n <;> simp [h]
theorem own_ls_yes {f : Nat → Bool} {n : Nat} (h : f n = true) : own_ls f (n + 1) = own_ls f n ++ [Int32.ofNat n] := by rw [own_ls_succ]; simp [h]
theorem own_ls_no {f : Nat → Bool} {n : Nat} (h : f n = false) : own_ls f (n + 1) = own_ls f n := by rw [own_ls_succ]; simp [h]
theorem own_len_le (f : Nat → Bool) (n : Nat) : (own_ls f n).length ≤ n := by
  unfold own_ls; have := List.length_filter_le f (List.range n); simpa using this
theorem own_len_mono (f : Nat → Bool) (n k : Nat) : (own_ls f n).length ≤ (own_ls f (n + k)).length := by
  induction k with
  | zero => exact Nat.le_refl _
  | succ k ih => rw [← Nat.add_assoc, own_ls_succ, List.length_append]; omega
theorem own_len_both (f : Nat → Bool) (n : Nat) : (own_ls f n).length + (own_ls (fun j => !f j) n).length = n := by
  induction n with
  | zero => rfl
  | succ n ih =>
    cases h : f n
    · rw [own_ls_no h, own_ls_yes (f := fun j => !f j) (by simp [h]), List.length_append, List.length_singleton]; omega
    · rw [own_ls_yes h, own_ls_no (f := fun j => !f j) (by simp [h]), List.length_append, List.length_singleton]; omega
theorem own_next_yes {f : Nat → Bool} {n : Nat} (h : f n = true) (k : Nat) : (own_ls f (n + 1 + k))[(own_ls f n).length]? = some (Int32.ofNat n) := by
  induction k with
  | zero => rw [Nat.add_zero, own_ls_yes h]; simp
  | succ k ih =>
    rw [← Nat.add_assoc, own_ls_succ, List.getElem?_append_left]
    · exact ih
    · exact (List.getElem?_eq_some_iff.mp ih).1
theorem own_next_no {f : Nat → Bool} {n : Nat} (h : f n = false) (k : Nat) (hk : n + 1 + k < 100) : ∀ i v, (own_ls f n).length ≤ i → (own_ls f (n + 1 + k))[i]? = some v → (n : Int) < v.toInt := by
  induction k with
  | zero => intro i v hi hv; rw [Nat.add_zero, own_ls_no h] at hv; have := (List.getElem?_eq_some_iff.mp hv).1; omega
  | succ k ih =>
    intro i v hi hv
    rw [← Nat.add_assoc, own_ls_succ] at hv
    by_cases q : i < (own_ls f (n + 1 + k)).length
    · rw [List.getElem?_append_left q] at hv; exact ih (by omega) i v hi hv
    · rw [List.getElem?_append_right (by omega)] at hv
      cases hf : f (n + 1 + k)
      · rw [hf] at hv; simp at hv
      · rw [hf] at hv
        have : v = Int32.ofNat (n + 1 + k) := by
          have := (List.getElem?_eq_some_iff.mp hv)
          obtain ⟨h1, h2⟩ := this
          simp at h1
          simp [h1] at h2
          rw [← h2]; simp
        rw [this, Int32.toInt_ofNat_of_lt (by omega)]; omega
theorem own_put (xs : List Int32) (v : Int32) (n r : Nat) (hn : xs.length = n) (hr : 0 < r) : (xs ++ List.replicate r 0).set n v = (xs ++ [v]) ++ List.replicate (r - 1) 0 := by
  subst hn
  obtain ⟨r', rfl⟩ : ∃ r', r = r' + 1 := ⟨r - 1, by omega⟩
  rw [List.set_append_right _ _ (Nat.le_refl _), Nat.sub_self, List.replicate_succ, List.set_cons_zero]
  simp
theorem own_eight (xs : List Int32) (h : xs.length = 8) : ∃ x0 x1 x2 x3 x4 x5 x6 x7, xs = [x0, x1, x2, x3, x4, x5, x6, x7] := by
  match xs, h with
  | [x0, x1, x2, x3, x4, x5, x6, x7], _ => exact ⟨x0, x1, x2, x3, x4, x5, x6, x7, rfl⟩
def own_inv (Z : State) (hh : Heap) (da la : Nat) (f : Nat → Bool) (n : Nat) (kd kl : Int32) : Prop :=
  ArI Z hh da (own_ls f n ++ List.replicate (8 - (own_ls f n).length) 0) ∧ ArI Z hh la (own_ls (fun j => !f j) n ++ List.replicate (8 - (own_ls (fun j => !f j) n).length) 0) ∧ kd.toInt = ((own_ls f n).length : Nat) ∧ kl.toInt = ((own_ls (fun j => !f j) n).length : Nat)
def own_bit (m : Int32) (j : Nat) : Bool := decide ((m &&& ((1 : Int32) <<< Int32.ofNat j)).toInt ≠ 0)
theorem own_b1_0 : decode method_2_code 0 = .ok (.iload_n 1, 1) := by decide +kernel
theorem own_b1_1 : decode method_2_code 1 = .ok (.newarray .int, 2) := by decide +kernel
theorem own_b1_3 : decode method_2_code 3 = .ok (.astore_n 2, 1) := by decide +kernel
theorem own_b1_4 : decode method_2_code 4 = .ok (.iload_n 1, 1) := by decide +kernel
theorem own_b1_5 : decode method_2_code 5 = .ok (.ifCond .le 9, 3) := by decide +kernel
theorem own_b1_8 : decode method_2_code 8 = .ok (.aload_n 2, 1) := by decide +kernel
theorem own_b1_9 : decode method_2_code 9 = .ok (.iconst 0, 1) := by decide +kernel
theorem own_b1_10 : decode method_2_code 10 = .ok (.aload_n 0, 1) := by decide +kernel
theorem own_b1_11 : decode method_2_code 11 = .ok (.iconst 0, 1) := by decide +kernel
theorem own_b1_12 : decode method_2_code 12 = .ok (.iaload, 1) := by decide +kernel
theorem own_b1_13 : decode method_2_code 13 = .ok (.iastore, 1) := by decide +kernel
theorem own_b1_14 : decode method_2_code 14 = .ok (.iload_n 1, 1) := by decide +kernel
theorem own_b1_15 : decode method_2_code 15 = .ok (.iconst 1, 1) := by decide +kernel
theorem own_b1_16 : decode method_2_code 16 = .ok (.if_icmp .le 9, 3) := by decide +kernel
theorem own_b1_19 : decode method_2_code 19 = .ok (.aload_n 2, 1) := by decide +kernel
theorem own_b1_20 : decode method_2_code 20 = .ok (.iconst 1, 1) := by decide +kernel
theorem own_b1_21 : decode method_2_code 21 = .ok (.aload_n 0, 1) := by decide +kernel
theorem own_b1_22 : decode method_2_code 22 = .ok (.iconst 1, 1) := by decide +kernel
theorem own_b1_23 : decode method_2_code 23 = .ok (.iaload, 1) := by decide +kernel
theorem own_b1_24 : decode method_2_code 24 = .ok (.iastore, 1) := by decide +kernel
theorem own_b1_25 : decode method_2_code 25 = .ok (.iload_n 1, 1) := by decide +kernel
theorem own_b1_26 : decode method_2_code 26 = .ok (.iconst 2, 1) := by decide +kernel
theorem own_b1_27 : decode method_2_code 27 = .ok (.if_icmp .le 9, 3) := by decide +kernel
theorem own_b1_30 : decode method_2_code 30 = .ok (.aload_n 2, 1) := by decide +kernel
theorem own_b1_31 : decode method_2_code 31 = .ok (.iconst 2, 1) := by decide +kernel
theorem own_b1_32 : decode method_2_code 32 = .ok (.aload_n 0, 1) := by decide +kernel
theorem own_b1_33 : decode method_2_code 33 = .ok (.iconst 2, 1) := by decide +kernel
theorem own_b1_34 : decode method_2_code 34 = .ok (.iaload, 1) := by decide +kernel
theorem own_b1_35 : decode method_2_code 35 = .ok (.iastore, 1) := by decide +kernel
theorem own_b1_36 : decode method_2_code 36 = .ok (.iload_n 1, 1) := by decide +kernel
theorem own_b1_37 : decode method_2_code 37 = .ok (.iconst 3, 1) := by decide +kernel
theorem own_b1_38 : decode method_2_code 38 = .ok (.if_icmp .le 9, 3) := by decide +kernel
theorem own_b1_41 : decode method_2_code 41 = .ok (.aload_n 2, 1) := by decide +kernel
theorem own_b1_42 : decode method_2_code 42 = .ok (.iconst 3, 1) := by decide +kernel
theorem own_b1_43 : decode method_2_code 43 = .ok (.aload_n 0, 1) := by decide +kernel
theorem own_b1_44 : decode method_2_code 44 = .ok (.iconst 3, 1) := by decide +kernel
theorem own_b1_45 : decode method_2_code 45 = .ok (.iaload, 1) := by decide +kernel
theorem own_b1_46 : decode method_2_code 46 = .ok (.iastore, 1) := by decide +kernel
theorem own_b1_47 : decode method_2_code 47 = .ok (.iload_n 1, 1) := by decide +kernel
theorem own_b1_48 : decode method_2_code 48 = .ok (.iconst 4, 1) := by decide +kernel
theorem own_b1_49 : decode method_2_code 49 = .ok (.if_icmp .le 9, 3) := by decide +kernel
theorem own_b1_52 : decode method_2_code 52 = .ok (.aload_n 2, 1) := by decide +kernel
theorem own_b1_53 : decode method_2_code 53 = .ok (.iconst 4, 1) := by decide +kernel
theorem own_b1_54 : decode method_2_code 54 = .ok (.aload_n 0, 1) := by decide +kernel
theorem own_b1_55 : decode method_2_code 55 = .ok (.iconst 4, 1) := by decide +kernel
theorem own_b1_56 : decode method_2_code 56 = .ok (.iaload, 1) := by decide +kernel
theorem own_b1_57 : decode method_2_code 57 = .ok (.iastore, 1) := by decide +kernel
theorem own_b1_58 : decode method_2_code 58 = .ok (.iload_n 1, 1) := by decide +kernel
theorem own_b1_59 : decode method_2_code 59 = .ok (.iconst 5, 1) := by decide +kernel
theorem own_b1_60 : decode method_2_code 60 = .ok (.if_icmp .le 9, 3) := by decide +kernel
theorem own_b1_63 : decode method_2_code 63 = .ok (.aload_n 2, 1) := by decide +kernel
theorem own_b1_64 : decode method_2_code 64 = .ok (.iconst 5, 1) := by decide +kernel
theorem own_b1_65 : decode method_2_code 65 = .ok (.aload_n 0, 1) := by decide +kernel
theorem own_b1_66 : decode method_2_code 66 = .ok (.iconst 5, 1) := by decide +kernel
theorem own_b1_67 : decode method_2_code 67 = .ok (.iaload, 1) := by decide +kernel
theorem own_b1_68 : decode method_2_code 68 = .ok (.iastore, 1) := by decide +kernel
theorem own_b1_69 : decode method_2_code 69 = .ok (.iload_n 1, 1) := by decide +kernel
theorem own_b1_70 : decode method_2_code 70 = .ok (.bipush 6, 2) := by decide +kernel
theorem own_b1_72 : decode method_2_code 72 = .ok (.if_icmp .le 11, 3) := by decide +kernel
theorem own_b1_75 : decode method_2_code 75 = .ok (.aload_n 2, 1) := by decide +kernel
theorem own_b1_76 : decode method_2_code 76 = .ok (.bipush 6, 2) := by decide +kernel
theorem own_b1_78 : decode method_2_code 78 = .ok (.aload_n 0, 1) := by decide +kernel
theorem own_b1_79 : decode method_2_code 79 = .ok (.bipush 6, 2) := by decide +kernel
theorem own_b1_81 : decode method_2_code 81 = .ok (.iaload, 1) := by decide +kernel
theorem own_b1_82 : decode method_2_code 82 = .ok (.iastore, 1) := by decide +kernel
theorem own_b1_83 : decode method_2_code 83 = .ok (.iload_n 1, 1) := by decide +kernel
theorem own_b1_84 : decode method_2_code 84 = .ok (.bipush 7, 2) := by decide +kernel
theorem own_b1_86 : decode method_2_code 86 = .ok (.if_icmp .le 11, 3) := by decide +kernel
theorem own_b1_89 : decode method_2_code 89 = .ok (.aload_n 2, 1) := by decide +kernel
theorem own_b1_90 : decode method_2_code 90 = .ok (.bipush 7, 2) := by decide +kernel
theorem own_b1_92 : decode method_2_code 92 = .ok (.aload_n 0, 1) := by decide +kernel
theorem own_b1_93 : decode method_2_code 93 = .ok (.bipush 7, 2) := by decide +kernel
theorem own_b1_95 : decode method_2_code 95 = .ok (.iaload, 1) := by decide +kernel
theorem own_b1_96 : decode method_2_code 96 = .ok (.iastore, 1) := by decide +kernel
theorem own_b1_97 : decode method_2_code 97 = .ok (.aload_n 2, 1) := by decide +kernel
theorem own_b1_98 : decode method_2_code 98 = .ok (.areturn, 1) := by decide +kernel
theorem own_pf_b1 : plainFor (⟨"com/example/curtail/curtail/LiveDocumentsLivePinLaw", "take", "([II)[I"⟩ : MethodName) = true := by first | exact plainFor_of_name (by first | (simp [plainName, overriddenIn, x]; done) | decide +kernel) | decide +kernel
set_option maxRecDepth 65536 in
set_option maxHeartbeats 40000000 in
theorem own_take (l : Launch) (Z : State) (a0 : Array Value) (hw : ∀ d ∈ tables_1, d.before a0 Z = true) (n0 : Nat) (h : Heap) (b : Nat) (kk : Int32) (x0 x1 x2 x3 x4 x5 x6 x7 : Int32) (n : Nat) (Z0 : n0 ≤ h.size) (A_b : ArI Z h b [x0, x1, x2, x3, x4, x5, x6, x7]) (hk : kk.toInt = (n : Nat)) (hn : n ≤ 8) :
    Con l Z (⟨"com/example/curtail/curtail/LiveDocumentsLivePinLaw", "take", "([II)[I"⟩ : MethodName) method_2_code 3 (some (.array .int)) ({ frames := 0, cells := 1, slots := 8, locals := 0 } : Room) n0 #[(.ref b), (.int kk)] h (R1 fun r h' => Keep h h' [] ∧ ∃ a : Nat, r = .ref a ∧ n0 ≤ a ∧ h.size ≤ a ∧ ArI Z h' a ([x0, x1, x2, x3, x4, x5, x6, x7].take n)) := by
  refine Con.of (ls := [.val (.ref b), .val (.int kk), .unset]) own_pf_b1 (fun m => by first | (simp [entryFrame, mkF, argsToLocals, Value.category]; done) | rfl) fun k K => ?_
  have k_0 : (0 : Int32).toInt = 0 := rfl
  have k_1 : (1 : Int32).toInt = 1 := rfl
  have k_2 : (2 : Int32).toInt = 2 := rfl
  have k_3 : (3 : Int32).toInt = 3 := rfl
  have k_4 : (4 : Int32).toInt = 4 := rfl
  have k_5 : (5 : Int32).toInt = 5 := rfl
  have k_6 : (6 : Int32).toInt = 6 := rfl
  have k_7 : (7 : Int32).toInt = 7 := rfl
  have Kp := Keep.refl h []
  obtain rfl | rfl | rfl | rfl | rfl | rfl | rfl | rfl | rfl : n = 0 ∨ n = 1 ∨ n = 2 ∨ n = 3 ∨ n = 4 ∨ n = 5 ∨ n = 6 ∨ n = 7 ∨ n = 8 := by omega
  · skip
    obtain rfl : kk = (0 : Int32) := i32_eq hk
    refine WP.iloadN K 1 own_b1_0 rfl rfl ?_
    refine WP.newarray K 3 0 0 1 0 (hw _ (List.mem_of_getElem? (i := 1) rfl)) own_b1_1 rfl rfl (Nat.le_refl _) (by decide) rfl rfl (by decide) (by decide) (fun h1 t z_t E2 V3 => ?_)
    have l_b_t : @LT.lt Nat _ b t := z_t ▸ A_b.lt
    have n0_t : @LE.le Nat _ n0 t := z_t ▸ Z0
    have Z0 : n0 ≤ (h1).size := Nat.le_trans Z0 E2.1
    have A_b := A_b.ext E2
    have Kp := Kp.ext E2
    have A_t := ArI.of_new V3
    have A_t : ArI Z h1 t [] := A_t
    refine WP.astoreN K 4 [.val (.ref b), .val (.int (0 : Int32)), .val (.ref t)] own_b1_3 rfl rfl rfl ?_
    refine WP.iloadN K 5 own_b1_4 rfl rfl ?_
    refine WP.if_le K 14 8 own_b1_5 (by decide) rfl (fun c5 => ?_) (fun c5 => ?_)
    · skip
      refine WP.iloadN K 15 own_b1_14 rfl rfl ?_
      refine WP.iconst K (1 : Int32) 16 own_b1_15 rfl rfl ?_
      refine WP.icmp_le K 25 19 own_b1_16 (by decide) rfl (fun c16 => ?_) (fun c16 => ?_)
      · skip
        refine WP.iloadN K 26 own_b1_25 rfl rfl ?_
        refine WP.iconst K (2 : Int32) 27 own_b1_26 rfl rfl ?_
        refine WP.icmp_le K 36 30 own_b1_27 (by decide) rfl (fun c27 => ?_) (fun c27 => ?_)
        · skip
          refine WP.iloadN K 37 own_b1_36 rfl rfl ?_
          refine WP.iconst K (3 : Int32) 38 own_b1_37 rfl rfl ?_
          refine WP.icmp_le K 47 41 own_b1_38 (by decide) rfl (fun c38 => ?_) (fun c38 => ?_)
          · skip
            refine WP.iloadN K 48 own_b1_47 rfl rfl ?_
            refine WP.iconst K (4 : Int32) 49 own_b1_48 rfl rfl ?_
            refine WP.icmp_le K 58 52 own_b1_49 (by decide) rfl (fun c49 => ?_) (fun c49 => ?_)
            · skip
              refine WP.iloadN K 59 own_b1_58 rfl rfl ?_
              refine WP.iconst K (5 : Int32) 60 own_b1_59 rfl rfl ?_
              refine WP.icmp_le K 69 63 own_b1_60 (by decide) rfl (fun c60 => ?_) (fun c60 => ?_)
              · skip
                refine WP.iloadN K 70 own_b1_69 rfl rfl ?_
                refine WP.bipush K (6 : Int32) 72 own_b1_70 rfl rfl ?_
                refine WP.icmp_le K 83 75 own_b1_72 (by decide) rfl (fun c72 => ?_) (fun c72 => ?_)
                · skip
                  refine WP.iloadN K 84 own_b1_83 rfl rfl ?_
                  refine WP.bipush K (7 : Int32) 86 own_b1_84 rfl rfl ?_
                  refine WP.icmp_le K 97 89 own_b1_86 (by decide) rfl (fun c86 => ?_) (fun c86 => ?_)
                  · skip
                    refine WP.aloadN K 98 own_b1_97 rfl rfl rfl ?_
                    refine WP.aret K rfl rfl rfl rfl own_b1_98 ?_ (by decide) (by decide)
                    exact ⟨_, rfl, Kp, t, rfl, n0_t, Nat.le_of_eq z_t.symm, A_t⟩
                  · skip
                    exact absurd c86 (by decide)
                · skip
                  exact absurd c72 (by decide)
              · skip
                exact absurd c60 (by decide)
            · skip
              exact absurd c49 (by decide)
          · skip
            exact absurd c38 (by decide)
        · skip
          exact absurd c27 (by decide)
      · skip
        exact absurd c16 (by decide)
    · skip
      exact absurd c5 (by decide)
  · skip
    obtain rfl : kk = (1 : Int32) := i32_eq hk
    refine WP.iloadN K 1 own_b1_0 rfl rfl ?_
    refine WP.newarray K 3 1 1 1 1 (hw _ (List.mem_of_getElem? (i := 1) rfl)) own_b1_1 rfl rfl (Nat.le_refl _) (by decide) rfl rfl (by decide) (by decide) (fun h4 t z_t E5 V6 => ?_)
    have l_b_t : @LT.lt Nat _ b t := z_t ▸ A_b.lt
    have n0_t : @LE.le Nat _ n0 t := z_t ▸ Z0
    have Z0 : n0 ≤ (h4).size := Nat.le_trans Z0 E5.1
    have A_b := A_b.ext E5
    have Kp := Kp.ext E5
    have A_t := ArI.of_new V6
    have A_t : ArI Z h4 t [(0 : Int32)] := A_t
    refine WP.astoreN K 4 [.val (.ref b), .val (.int (1 : Int32)), .val (.ref t)] own_b1_3 rfl rfl rfl ?_
    refine WP.iloadN K 5 own_b1_4 rfl rfl ?_
    refine WP.if_le K 14 8 own_b1_5 (by decide) rfl (fun c5 => ?_) (fun c5 => ?_)
    · skip
      exact absurd c5 (by decide)
    · skip
      refine WP.aloadN K 9 own_b1_8 rfl rfl rfl ?_
      refine WP.iconst K (0 : Int32) 10 own_b1_9 rfl rfl ?_
      refine WP.aloadN K 11 own_b1_10 rfl rfl rfl ?_
      refine WP.iconst K (0 : Int32) 12 own_b1_11 rfl rfl ?_
      refine WP.iaload K 13 0 A_b rfl rfl own_b1_12 rfl ?_
      refine WP.iastore K 14 0 A_t rfl (by simp) own_b1_13 rfl n0_t (fun h7 K8 A_t => ?_)
      have Z0 : n0 ≤ (h7).size := Nat.le_trans Z0 K8.1
      have A_b := A_b.keep K8 (nm1 (by omega))
      have Kp := Kp.trans K8 (ks1 (by first | (refine Or.inl ?_; simp; done) | (refine Or.inr ?_; omega)))
      have A_t : ArI Z h7 t [x0] := A_t
      refine WP.iloadN K 15 own_b1_14 rfl rfl ?_
      refine WP.iconst K (1 : Int32) 16 own_b1_15 rfl rfl ?_
      refine WP.icmp_le K 25 19 own_b1_16 (by decide) rfl (fun c16 => ?_) (fun c16 => ?_)
      · skip
        refine WP.iloadN K 26 own_b1_25 rfl rfl ?_
        refine WP.iconst K (2 : Int32) 27 own_b1_26 rfl rfl ?_
        refine WP.icmp_le K 36 30 own_b1_27 (by decide) rfl (fun c27 => ?_) (fun c27 => ?_)
        · skip
          refine WP.iloadN K 37 own_b1_36 rfl rfl ?_
          refine WP.iconst K (3 : Int32) 38 own_b1_37 rfl rfl ?_
          refine WP.icmp_le K 47 41 own_b1_38 (by decide) rfl (fun c38 => ?_) (fun c38 => ?_)
          · skip
            refine WP.iloadN K 48 own_b1_47 rfl rfl ?_
            refine WP.iconst K (4 : Int32) 49 own_b1_48 rfl rfl ?_
            refine WP.icmp_le K 58 52 own_b1_49 (by decide) rfl (fun c49 => ?_) (fun c49 => ?_)
            · skip
              refine WP.iloadN K 59 own_b1_58 rfl rfl ?_
              refine WP.iconst K (5 : Int32) 60 own_b1_59 rfl rfl ?_
              refine WP.icmp_le K 69 63 own_b1_60 (by decide) rfl (fun c60 => ?_) (fun c60 => ?_)
              · skip
                refine WP.iloadN K 70 own_b1_69 rfl rfl ?_
                refine WP.bipush K (6 : Int32) 72 own_b1_70 rfl rfl ?_
                refine WP.icmp_le K 83 75 own_b1_72 (by decide) rfl (fun c72 => ?_) (fun c72 => ?_)
                · skip
                  refine WP.iloadN K 84 own_b1_83 rfl rfl ?_
                  refine WP.bipush K (7 : Int32) 86 own_b1_84 rfl rfl ?_
                  refine WP.icmp_le K 97 89 own_b1_86 (by decide) rfl (fun c86 => ?_) (fun c86 => ?_)
                  · skip
                    refine WP.aloadN K 98 own_b1_97 rfl rfl rfl ?_
                    refine WP.aret K rfl rfl rfl rfl own_b1_98 ?_ (by decide) (by decide)
                    exact ⟨_, rfl, Kp, t, rfl, n0_t, Nat.le_of_eq z_t.symm, A_t⟩
                  · skip
                    exact absurd c86 (by decide)
                · skip
                  exact absurd c72 (by decide)
              · skip
                exact absurd c60 (by decide)
            · skip
              exact absurd c49 (by decide)
          · skip
            exact absurd c38 (by decide)
        · skip
          exact absurd c27 (by decide)
      · skip
        exact absurd c16 (by decide)
  · skip
    obtain rfl : kk = (2 : Int32) := i32_eq hk
    refine WP.iloadN K 1 own_b1_0 rfl rfl ?_
    refine WP.newarray K 3 2 2 1 2 (hw _ (List.mem_of_getElem? (i := 1) rfl)) own_b1_1 rfl rfl (Nat.le_refl _) (by decide) rfl rfl (by decide) (by decide) (fun h9 t z_t E10 V11 => ?_)
    have l_b_t : @LT.lt Nat _ b t := z_t ▸ A_b.lt
    have n0_t : @LE.le Nat _ n0 t := z_t ▸ Z0
    have Z0 : n0 ≤ (h9).size := Nat.le_trans Z0 E10.1
    have A_b := A_b.ext E10
    have Kp := Kp.ext E10
    have A_t := ArI.of_new V11
    have A_t : ArI Z h9 t [(0 : Int32), (0 : Int32)] := A_t
    refine WP.astoreN K 4 [.val (.ref b), .val (.int (2 : Int32)), .val (.ref t)] own_b1_3 rfl rfl rfl ?_
    refine WP.iloadN K 5 own_b1_4 rfl rfl ?_
    refine WP.if_le K 14 8 own_b1_5 (by decide) rfl (fun c5 => ?_) (fun c5 => ?_)
    · skip
      exact absurd c5 (by decide)
    · skip
      refine WP.aloadN K 9 own_b1_8 rfl rfl rfl ?_
      refine WP.iconst K (0 : Int32) 10 own_b1_9 rfl rfl ?_
      refine WP.aloadN K 11 own_b1_10 rfl rfl rfl ?_
      refine WP.iconst K (0 : Int32) 12 own_b1_11 rfl rfl ?_
      refine WP.iaload K 13 0 A_b rfl rfl own_b1_12 rfl ?_
      refine WP.iastore K 14 0 A_t rfl (by simp) own_b1_13 rfl n0_t (fun h12 K13 A_t => ?_)
      have Z0 : n0 ≤ (h12).size := Nat.le_trans Z0 K13.1
      have A_b := A_b.keep K13 (nm1 (by omega))
      have Kp := Kp.trans K13 (ks1 (by first | (refine Or.inl ?_; simp; done) | (refine Or.inr ?_; omega)))
      have A_t : ArI Z h12 t [x0, (0 : Int32)] := A_t
      refine WP.iloadN K 15 own_b1_14 rfl rfl ?_
      refine WP.iconst K (1 : Int32) 16 own_b1_15 rfl rfl ?_
      refine WP.icmp_le K 25 19 own_b1_16 (by decide) rfl (fun c16 => ?_) (fun c16 => ?_)
      · skip
        exact absurd c16 (by decide)
      · skip
        refine WP.aloadN K 20 own_b1_19 rfl rfl rfl ?_
        refine WP.iconst K (1 : Int32) 21 own_b1_20 rfl rfl ?_
        refine WP.aloadN K 22 own_b1_21 rfl rfl rfl ?_
        refine WP.iconst K (1 : Int32) 23 own_b1_22 rfl rfl ?_
        refine WP.iaload K 24 1 A_b rfl rfl own_b1_23 rfl ?_
        refine WP.iastore K 25 1 A_t rfl (by simp) own_b1_24 rfl n0_t (fun h14 K15 A_t => ?_)
        have Z0 : n0 ≤ (h14).size := Nat.le_trans Z0 K15.1
        have A_b := A_b.keep K15 (nm1 (by omega))
        have Kp := Kp.trans K15 (ks1 (by first | (refine Or.inl ?_; simp; done) | (refine Or.inr ?_; omega)))
        have A_t : ArI Z h14 t [x0, x1] := A_t
        refine WP.iloadN K 26 own_b1_25 rfl rfl ?_
        refine WP.iconst K (2 : Int32) 27 own_b1_26 rfl rfl ?_
        refine WP.icmp_le K 36 30 own_b1_27 (by decide) rfl (fun c27 => ?_) (fun c27 => ?_)
        · skip
          refine WP.iloadN K 37 own_b1_36 rfl rfl ?_
          refine WP.iconst K (3 : Int32) 38 own_b1_37 rfl rfl ?_
          refine WP.icmp_le K 47 41 own_b1_38 (by decide) rfl (fun c38 => ?_) (fun c38 => ?_)
          · skip
            refine WP.iloadN K 48 own_b1_47 rfl rfl ?_
            refine WP.iconst K (4 : Int32) 49 own_b1_48 rfl rfl ?_
            refine WP.icmp_le K 58 52 own_b1_49 (by decide) rfl (fun c49 => ?_) (fun c49 => ?_)
            · skip
              refine WP.iloadN K 59 own_b1_58 rfl rfl ?_
              refine WP.iconst K (5 : Int32) 60 own_b1_59 rfl rfl ?_
              refine WP.icmp_le K 69 63 own_b1_60 (by decide) rfl (fun c60 => ?_) (fun c60 => ?_)
              · skip
                refine WP.iloadN K 70 own_b1_69 rfl rfl ?_
                refine WP.bipush K (6 : Int32) 72 own_b1_70 rfl rfl ?_
                refine WP.icmp_le K 83 75 own_b1_72 (by decide) rfl (fun c72 => ?_) (fun c72 => ?_)
                · skip
                  refine WP.iloadN K 84 own_b1_83 rfl rfl ?_
                  refine WP.bipush K (7 : Int32) 86 own_b1_84 rfl rfl ?_
                  refine WP.icmp_le K 97 89 own_b1_86 (by decide) rfl (fun c86 => ?_) (fun c86 => ?_)
                  · skip
                    refine WP.aloadN K 98 own_b1_97 rfl rfl rfl ?_
                    refine WP.aret K rfl rfl rfl rfl own_b1_98 ?_ (by decide) (by decide)
                    exact ⟨_, rfl, Kp, t, rfl, n0_t, Nat.le_of_eq z_t.symm, A_t⟩
                  · skip
                    exact absurd c86 (by decide)
                · skip
                  exact absurd c72 (by decide)
              · skip
                exact absurd c60 (by decide)
            · skip
              exact absurd c49 (by decide)
          · skip
            exact absurd c38 (by decide)
        · skip
          exact absurd c27 (by decide)
  · skip
    obtain rfl : kk = (3 : Int32) := i32_eq hk
    refine WP.iloadN K 1 own_b1_0 rfl rfl ?_
    refine WP.newarray K 3 3 3 1 3 (hw _ (List.mem_of_getElem? (i := 1) rfl)) own_b1_1 rfl rfl (Nat.le_refl _) (by decide) rfl rfl (by decide) (by decide) (fun h16 t z_t E17 V18 => ?_)
    have l_b_t : @LT.lt Nat _ b t := z_t ▸ A_b.lt
    have n0_t : @LE.le Nat _ n0 t := z_t ▸ Z0
    have Z0 : n0 ≤ (h16).size := Nat.le_trans Z0 E17.1
    have A_b := A_b.ext E17
    have Kp := Kp.ext E17
    have A_t := ArI.of_new V18
    have A_t : ArI Z h16 t [(0 : Int32), (0 : Int32), (0 : Int32)] := A_t
    refine WP.astoreN K 4 [.val (.ref b), .val (.int (3 : Int32)), .val (.ref t)] own_b1_3 rfl rfl rfl ?_
    refine WP.iloadN K 5 own_b1_4 rfl rfl ?_
    refine WP.if_le K 14 8 own_b1_5 (by decide) rfl (fun c5 => ?_) (fun c5 => ?_)
    · skip
      exact absurd c5 (by decide)
    · skip
      refine WP.aloadN K 9 own_b1_8 rfl rfl rfl ?_
      refine WP.iconst K (0 : Int32) 10 own_b1_9 rfl rfl ?_
      refine WP.aloadN K 11 own_b1_10 rfl rfl rfl ?_
      refine WP.iconst K (0 : Int32) 12 own_b1_11 rfl rfl ?_
      refine WP.iaload K 13 0 A_b rfl rfl own_b1_12 rfl ?_
      refine WP.iastore K 14 0 A_t rfl (by simp) own_b1_13 rfl n0_t (fun h19 K20 A_t => ?_)
      have Z0 : n0 ≤ (h19).size := Nat.le_trans Z0 K20.1
      have A_b := A_b.keep K20 (nm1 (by omega))
      have Kp := Kp.trans K20 (ks1 (by first | (refine Or.inl ?_; simp; done) | (refine Or.inr ?_; omega)))
      have A_t : ArI Z h19 t [x0, (0 : Int32), (0 : Int32)] := A_t
      refine WP.iloadN K 15 own_b1_14 rfl rfl ?_
      refine WP.iconst K (1 : Int32) 16 own_b1_15 rfl rfl ?_
      refine WP.icmp_le K 25 19 own_b1_16 (by decide) rfl (fun c16 => ?_) (fun c16 => ?_)
      · skip
        exact absurd c16 (by decide)
      · skip
        refine WP.aloadN K 20 own_b1_19 rfl rfl rfl ?_
        refine WP.iconst K (1 : Int32) 21 own_b1_20 rfl rfl ?_
        refine WP.aloadN K 22 own_b1_21 rfl rfl rfl ?_
        refine WP.iconst K (1 : Int32) 23 own_b1_22 rfl rfl ?_
        refine WP.iaload K 24 1 A_b rfl rfl own_b1_23 rfl ?_
        refine WP.iastore K 25 1 A_t rfl (by simp) own_b1_24 rfl n0_t (fun h21 K22 A_t => ?_)
        have Z0 : n0 ≤ (h21).size := Nat.le_trans Z0 K22.1
        have A_b := A_b.keep K22 (nm1 (by omega))
        have Kp := Kp.trans K22 (ks1 (by first | (refine Or.inl ?_; simp; done) | (refine Or.inr ?_; omega)))
        have A_t : ArI Z h21 t [x0, x1, (0 : Int32)] := A_t
        refine WP.iloadN K 26 own_b1_25 rfl rfl ?_
        refine WP.iconst K (2 : Int32) 27 own_b1_26 rfl rfl ?_
        refine WP.icmp_le K 36 30 own_b1_27 (by decide) rfl (fun c27 => ?_) (fun c27 => ?_)
        · skip
          exact absurd c27 (by decide)
        · skip
          refine WP.aloadN K 31 own_b1_30 rfl rfl rfl ?_
          refine WP.iconst K (2 : Int32) 32 own_b1_31 rfl rfl ?_
          refine WP.aloadN K 33 own_b1_32 rfl rfl rfl ?_
          refine WP.iconst K (2 : Int32) 34 own_b1_33 rfl rfl ?_
          refine WP.iaload K 35 2 A_b rfl rfl own_b1_34 rfl ?_
          refine WP.iastore K 36 2 A_t rfl (by simp) own_b1_35 rfl n0_t (fun h23 K24 A_t => ?_)
          have Z0 : n0 ≤ (h23).size := Nat.le_trans Z0 K24.1
          have A_b := A_b.keep K24 (nm1 (by omega))
          have Kp := Kp.trans K24 (ks1 (by first | (refine Or.inl ?_; simp; done) | (refine Or.inr ?_; omega)))
          have A_t : ArI Z h23 t [x0, x1, x2] := A_t
          refine WP.iloadN K 37 own_b1_36 rfl rfl ?_
          refine WP.iconst K (3 : Int32) 38 own_b1_37 rfl rfl ?_
          refine WP.icmp_le K 47 41 own_b1_38 (by decide) rfl (fun c38 => ?_) (fun c38 => ?_)
          · skip
            refine WP.iloadN K 48 own_b1_47 rfl rfl ?_
            refine WP.iconst K (4 : Int32) 49 own_b1_48 rfl rfl ?_
            refine WP.icmp_le K 58 52 own_b1_49 (by decide) rfl (fun c49 => ?_) (fun c49 => ?_)
            · skip
              refine WP.iloadN K 59 own_b1_58 rfl rfl ?_
              refine WP.iconst K (5 : Int32) 60 own_b1_59 rfl rfl ?_
              refine WP.icmp_le K 69 63 own_b1_60 (by decide) rfl (fun c60 => ?_) (fun c60 => ?_)
              · skip
                refine WP.iloadN K 70 own_b1_69 rfl rfl ?_
                refine WP.bipush K (6 : Int32) 72 own_b1_70 rfl rfl ?_
                refine WP.icmp_le K 83 75 own_b1_72 (by decide) rfl (fun c72 => ?_) (fun c72 => ?_)
                · skip
                  refine WP.iloadN K 84 own_b1_83 rfl rfl ?_
                  refine WP.bipush K (7 : Int32) 86 own_b1_84 rfl rfl ?_
                  refine WP.icmp_le K 97 89 own_b1_86 (by decide) rfl (fun c86 => ?_) (fun c86 => ?_)
                  · skip
                    refine WP.aloadN K 98 own_b1_97 rfl rfl rfl ?_
                    refine WP.aret K rfl rfl rfl rfl own_b1_98 ?_ (by decide) (by decide)
                    exact ⟨_, rfl, Kp, t, rfl, n0_t, Nat.le_of_eq z_t.symm, A_t⟩
                  · skip
                    exact absurd c86 (by decide)
                · skip
                  exact absurd c72 (by decide)
              · skip
                exact absurd c60 (by decide)
            · skip
              exact absurd c49 (by decide)
          · skip
            exact absurd c38 (by decide)
  · skip
    obtain rfl : kk = (4 : Int32) := i32_eq hk
    refine WP.iloadN K 1 own_b1_0 rfl rfl ?_
    refine WP.newarray K 3 4 4 1 4 (hw _ (List.mem_of_getElem? (i := 1) rfl)) own_b1_1 rfl rfl (Nat.le_refl _) (by decide) rfl rfl (by decide) (by decide) (fun h25 t z_t E26 V27 => ?_)
    have l_b_t : @LT.lt Nat _ b t := z_t ▸ A_b.lt
    have n0_t : @LE.le Nat _ n0 t := z_t ▸ Z0
    have Z0 : n0 ≤ (h25).size := Nat.le_trans Z0 E26.1
    have A_b := A_b.ext E26
    have Kp := Kp.ext E26
    have A_t := ArI.of_new V27
    have A_t : ArI Z h25 t [(0 : Int32), (0 : Int32), (0 : Int32), (0 : Int32)] := A_t
    refine WP.astoreN K 4 [.val (.ref b), .val (.int (4 : Int32)), .val (.ref t)] own_b1_3 rfl rfl rfl ?_
    refine WP.iloadN K 5 own_b1_4 rfl rfl ?_
    refine WP.if_le K 14 8 own_b1_5 (by decide) rfl (fun c5 => ?_) (fun c5 => ?_)
    · skip
      exact absurd c5 (by decide)
    · skip
      refine WP.aloadN K 9 own_b1_8 rfl rfl rfl ?_
      refine WP.iconst K (0 : Int32) 10 own_b1_9 rfl rfl ?_
      refine WP.aloadN K 11 own_b1_10 rfl rfl rfl ?_
      refine WP.iconst K (0 : Int32) 12 own_b1_11 rfl rfl ?_
      refine WP.iaload K 13 0 A_b rfl rfl own_b1_12 rfl ?_
      refine WP.iastore K 14 0 A_t rfl (by simp) own_b1_13 rfl n0_t (fun h28 K29 A_t => ?_)
      have Z0 : n0 ≤ (h28).size := Nat.le_trans Z0 K29.1
      have A_b := A_b.keep K29 (nm1 (by omega))
      have Kp := Kp.trans K29 (ks1 (by first | (refine Or.inl ?_; simp; done) | (refine Or.inr ?_; omega)))
      have A_t : ArI Z h28 t [x0, (0 : Int32), (0 : Int32), (0 : Int32)] := A_t
      refine WP.iloadN K 15 own_b1_14 rfl rfl ?_
      refine WP.iconst K (1 : Int32) 16 own_b1_15 rfl rfl ?_
      refine WP.icmp_le K 25 19 own_b1_16 (by decide) rfl (fun c16 => ?_) (fun c16 => ?_)
      · skip
        exact absurd c16 (by decide)
      · skip
        refine WP.aloadN K 20 own_b1_19 rfl rfl rfl ?_
        refine WP.iconst K (1 : Int32) 21 own_b1_20 rfl rfl ?_
        refine WP.aloadN K 22 own_b1_21 rfl rfl rfl ?_
        refine WP.iconst K (1 : Int32) 23 own_b1_22 rfl rfl ?_
        refine WP.iaload K 24 1 A_b rfl rfl own_b1_23 rfl ?_
        refine WP.iastore K 25 1 A_t rfl (by simp) own_b1_24 rfl n0_t (fun h30 K31 A_t => ?_)
        have Z0 : n0 ≤ (h30).size := Nat.le_trans Z0 K31.1
        have A_b := A_b.keep K31 (nm1 (by omega))
        have Kp := Kp.trans K31 (ks1 (by first | (refine Or.inl ?_; simp; done) | (refine Or.inr ?_; omega)))
        have A_t : ArI Z h30 t [x0, x1, (0 : Int32), (0 : Int32)] := A_t
        refine WP.iloadN K 26 own_b1_25 rfl rfl ?_
        refine WP.iconst K (2 : Int32) 27 own_b1_26 rfl rfl ?_
        refine WP.icmp_le K 36 30 own_b1_27 (by decide) rfl (fun c27 => ?_) (fun c27 => ?_)
        · skip
          exact absurd c27 (by decide)
        · skip
          refine WP.aloadN K 31 own_b1_30 rfl rfl rfl ?_
          refine WP.iconst K (2 : Int32) 32 own_b1_31 rfl rfl ?_
          refine WP.aloadN K 33 own_b1_32 rfl rfl rfl ?_
          refine WP.iconst K (2 : Int32) 34 own_b1_33 rfl rfl ?_
          refine WP.iaload K 35 2 A_b rfl rfl own_b1_34 rfl ?_
          refine WP.iastore K 36 2 A_t rfl (by simp) own_b1_35 rfl n0_t (fun h32 K33 A_t => ?_)
          have Z0 : n0 ≤ (h32).size := Nat.le_trans Z0 K33.1
          have A_b := A_b.keep K33 (nm1 (by omega))
          have Kp := Kp.trans K33 (ks1 (by first | (refine Or.inl ?_; simp; done) | (refine Or.inr ?_; omega)))
          have A_t : ArI Z h32 t [x0, x1, x2, (0 : Int32)] := A_t
          refine WP.iloadN K 37 own_b1_36 rfl rfl ?_
          refine WP.iconst K (3 : Int32) 38 own_b1_37 rfl rfl ?_
          refine WP.icmp_le K 47 41 own_b1_38 (by decide) rfl (fun c38 => ?_) (fun c38 => ?_)
          · skip
            exact absurd c38 (by decide)
          · skip
            refine WP.aloadN K 42 own_b1_41 rfl rfl rfl ?_
            refine WP.iconst K (3 : Int32) 43 own_b1_42 rfl rfl ?_
            refine WP.aloadN K 44 own_b1_43 rfl rfl rfl ?_
            refine WP.iconst K (3 : Int32) 45 own_b1_44 rfl rfl ?_
            refine WP.iaload K 46 3 A_b rfl rfl own_b1_45 rfl ?_
            refine WP.iastore K 47 3 A_t rfl (by simp) own_b1_46 rfl n0_t (fun h34 K35 A_t => ?_)
            have Z0 : n0 ≤ (h34).size := Nat.le_trans Z0 K35.1
            have A_b := A_b.keep K35 (nm1 (by omega))
            have Kp := Kp.trans K35 (ks1 (by first | (refine Or.inl ?_; simp; done) | (refine Or.inr ?_; omega)))
            have A_t : ArI Z h34 t [x0, x1, x2, x3] := A_t
            refine WP.iloadN K 48 own_b1_47 rfl rfl ?_
            refine WP.iconst K (4 : Int32) 49 own_b1_48 rfl rfl ?_
            refine WP.icmp_le K 58 52 own_b1_49 (by decide) rfl (fun c49 => ?_) (fun c49 => ?_)
            · skip
              refine WP.iloadN K 59 own_b1_58 rfl rfl ?_
              refine WP.iconst K (5 : Int32) 60 own_b1_59 rfl rfl ?_
              refine WP.icmp_le K 69 63 own_b1_60 (by decide) rfl (fun c60 => ?_) (fun c60 => ?_)
              · skip
                refine WP.iloadN K 70 own_b1_69 rfl rfl ?_
                refine WP.bipush K (6 : Int32) 72 own_b1_70 rfl rfl ?_
                refine WP.icmp_le K 83 75 own_b1_72 (by decide) rfl (fun c72 => ?_) (fun c72 => ?_)
                · skip
                  refine WP.iloadN K 84 own_b1_83 rfl rfl ?_
                  refine WP.bipush K (7 : Int32) 86 own_b1_84 rfl rfl ?_
                  refine WP.icmp_le K 97 89 own_b1_86 (by decide) rfl (fun c86 => ?_) (fun c86 => ?_)
                  · skip
                    refine WP.aloadN K 98 own_b1_97 rfl rfl rfl ?_
                    refine WP.aret K rfl rfl rfl rfl own_b1_98 ?_ (by decide) (by decide)
                    exact ⟨_, rfl, Kp, t, rfl, n0_t, Nat.le_of_eq z_t.symm, A_t⟩
                  · skip
                    exact absurd c86 (by decide)
                · skip
                  exact absurd c72 (by decide)
              · skip
                exact absurd c60 (by decide)
            · skip
              exact absurd c49 (by decide)
  · skip
    obtain rfl : kk = (5 : Int32) := i32_eq hk
    refine WP.iloadN K 1 own_b1_0 rfl rfl ?_
    refine WP.newarray K 3 5 5 1 5 (hw _ (List.mem_of_getElem? (i := 1) rfl)) own_b1_1 rfl rfl (Nat.le_refl _) (by decide) rfl rfl (by decide) (by decide) (fun h36 t z_t E37 V38 => ?_)
    have l_b_t : @LT.lt Nat _ b t := z_t ▸ A_b.lt
    have n0_t : @LE.le Nat _ n0 t := z_t ▸ Z0
    have Z0 : n0 ≤ (h36).size := Nat.le_trans Z0 E37.1
    have A_b := A_b.ext E37
    have Kp := Kp.ext E37
    have A_t := ArI.of_new V38
    have A_t : ArI Z h36 t [(0 : Int32), (0 : Int32), (0 : Int32), (0 : Int32), (0 : Int32)] := A_t
    refine WP.astoreN K 4 [.val (.ref b), .val (.int (5 : Int32)), .val (.ref t)] own_b1_3 rfl rfl rfl ?_
    refine WP.iloadN K 5 own_b1_4 rfl rfl ?_
    refine WP.if_le K 14 8 own_b1_5 (by decide) rfl (fun c5 => ?_) (fun c5 => ?_)
    · skip
      exact absurd c5 (by decide)
    · skip
      refine WP.aloadN K 9 own_b1_8 rfl rfl rfl ?_
      refine WP.iconst K (0 : Int32) 10 own_b1_9 rfl rfl ?_
      refine WP.aloadN K 11 own_b1_10 rfl rfl rfl ?_
      refine WP.iconst K (0 : Int32) 12 own_b1_11 rfl rfl ?_
      refine WP.iaload K 13 0 A_b rfl rfl own_b1_12 rfl ?_
      refine WP.iastore K 14 0 A_t rfl (by simp) own_b1_13 rfl n0_t (fun h39 K40 A_t => ?_)
      have Z0 : n0 ≤ (h39).size := Nat.le_trans Z0 K40.1
      have A_b := A_b.keep K40 (nm1 (by omega))
      have Kp := Kp.trans K40 (ks1 (by first | (refine Or.inl ?_; simp; done) | (refine Or.inr ?_; omega)))
      have A_t : ArI Z h39 t [x0, (0 : Int32), (0 : Int32), (0 : Int32), (0 : Int32)] := A_t
      refine WP.iloadN K 15 own_b1_14 rfl rfl ?_
      refine WP.iconst K (1 : Int32) 16 own_b1_15 rfl rfl ?_
      refine WP.icmp_le K 25 19 own_b1_16 (by decide) rfl (fun c16 => ?_) (fun c16 => ?_)
      · skip
        exact absurd c16 (by decide)
      · skip
        refine WP.aloadN K 20 own_b1_19 rfl rfl rfl ?_
        refine WP.iconst K (1 : Int32) 21 own_b1_20 rfl rfl ?_
        refine WP.aloadN K 22 own_b1_21 rfl rfl rfl ?_
        refine WP.iconst K (1 : Int32) 23 own_b1_22 rfl rfl ?_
        refine WP.iaload K 24 1 A_b rfl rfl own_b1_23 rfl ?_
        refine WP.iastore K 25 1 A_t rfl (by simp) own_b1_24 rfl n0_t (fun h41 K42 A_t => ?_)
        have Z0 : n0 ≤ (h41).size := Nat.le_trans Z0 K42.1
        have A_b := A_b.keep K42 (nm1 (by omega))
        have Kp := Kp.trans K42 (ks1 (by first | (refine Or.inl ?_; simp; done) | (refine Or.inr ?_; omega)))
        have A_t : ArI Z h41 t [x0, x1, (0 : Int32), (0 : Int32), (0 : Int32)] := A_t
        refine WP.iloadN K 26 own_b1_25 rfl rfl ?_
        refine WP.iconst K (2 : Int32) 27 own_b1_26 rfl rfl ?_
        refine WP.icmp_le K 36 30 own_b1_27 (by decide) rfl (fun c27 => ?_) (fun c27 => ?_)
        · skip
          exact absurd c27 (by decide)
        · skip
          refine WP.aloadN K 31 own_b1_30 rfl rfl rfl ?_
          refine WP.iconst K (2 : Int32) 32 own_b1_31 rfl rfl ?_
          refine WP.aloadN K 33 own_b1_32 rfl rfl rfl ?_
          refine WP.iconst K (2 : Int32) 34 own_b1_33 rfl rfl ?_
          refine WP.iaload K 35 2 A_b rfl rfl own_b1_34 rfl ?_
          refine WP.iastore K 36 2 A_t rfl (by simp) own_b1_35 rfl n0_t (fun h43 K44 A_t => ?_)
          have Z0 : n0 ≤ (h43).size := Nat.le_trans Z0 K44.1
          have A_b := A_b.keep K44 (nm1 (by omega))
          have Kp := Kp.trans K44 (ks1 (by first | (refine Or.inl ?_; simp; done) | (refine Or.inr ?_; omega)))
          have A_t : ArI Z h43 t [x0, x1, x2, (0 : Int32), (0 : Int32)] := A_t
          refine WP.iloadN K 37 own_b1_36 rfl rfl ?_
          refine WP.iconst K (3 : Int32) 38 own_b1_37 rfl rfl ?_
          refine WP.icmp_le K 47 41 own_b1_38 (by decide) rfl (fun c38 => ?_) (fun c38 => ?_)
          · skip
            exact absurd c38 (by decide)
          · skip
            refine WP.aloadN K 42 own_b1_41 rfl rfl rfl ?_
            refine WP.iconst K (3 : Int32) 43 own_b1_42 rfl rfl ?_
            refine WP.aloadN K 44 own_b1_43 rfl rfl rfl ?_
            refine WP.iconst K (3 : Int32) 45 own_b1_44 rfl rfl ?_
            refine WP.iaload K 46 3 A_b rfl rfl own_b1_45 rfl ?_
            refine WP.iastore K 47 3 A_t rfl (by simp) own_b1_46 rfl n0_t (fun h45 K46 A_t => ?_)
            have Z0 : n0 ≤ (h45).size := Nat.le_trans Z0 K46.1
            have A_b := A_b.keep K46 (nm1 (by omega))
            have Kp := Kp.trans K46 (ks1 (by first | (refine Or.inl ?_; simp; done) | (refine Or.inr ?_; omega)))
            have A_t : ArI Z h45 t [x0, x1, x2, x3, (0 : Int32)] := A_t
            refine WP.iloadN K 48 own_b1_47 rfl rfl ?_
            refine WP.iconst K (4 : Int32) 49 own_b1_48 rfl rfl ?_
            refine WP.icmp_le K 58 52 own_b1_49 (by decide) rfl (fun c49 => ?_) (fun c49 => ?_)
            · skip
              exact absurd c49 (by decide)
            · skip
              refine WP.aloadN K 53 own_b1_52 rfl rfl rfl ?_
              refine WP.iconst K (4 : Int32) 54 own_b1_53 rfl rfl ?_
              refine WP.aloadN K 55 own_b1_54 rfl rfl rfl ?_
              refine WP.iconst K (4 : Int32) 56 own_b1_55 rfl rfl ?_
              refine WP.iaload K 57 4 A_b rfl rfl own_b1_56 rfl ?_
              refine WP.iastore K 58 4 A_t rfl (by simp) own_b1_57 rfl n0_t (fun h47 K48 A_t => ?_)
              have Z0 : n0 ≤ (h47).size := Nat.le_trans Z0 K48.1
              have A_b := A_b.keep K48 (nm1 (by omega))
              have Kp := Kp.trans K48 (ks1 (by first | (refine Or.inl ?_; simp; done) | (refine Or.inr ?_; omega)))
              have A_t : ArI Z h47 t [x0, x1, x2, x3, x4] := A_t
              refine WP.iloadN K 59 own_b1_58 rfl rfl ?_
              refine WP.iconst K (5 : Int32) 60 own_b1_59 rfl rfl ?_
              refine WP.icmp_le K 69 63 own_b1_60 (by decide) rfl (fun c60 => ?_) (fun c60 => ?_)
              · skip
                refine WP.iloadN K 70 own_b1_69 rfl rfl ?_
                refine WP.bipush K (6 : Int32) 72 own_b1_70 rfl rfl ?_
                refine WP.icmp_le K 83 75 own_b1_72 (by decide) rfl (fun c72 => ?_) (fun c72 => ?_)
                · skip
                  refine WP.iloadN K 84 own_b1_83 rfl rfl ?_
                  refine WP.bipush K (7 : Int32) 86 own_b1_84 rfl rfl ?_
                  refine WP.icmp_le K 97 89 own_b1_86 (by decide) rfl (fun c86 => ?_) (fun c86 => ?_)
                  · skip
                    refine WP.aloadN K 98 own_b1_97 rfl rfl rfl ?_
                    refine WP.aret K rfl rfl rfl rfl own_b1_98 ?_ (by decide) (by decide)
                    exact ⟨_, rfl, Kp, t, rfl, n0_t, Nat.le_of_eq z_t.symm, A_t⟩
                  · skip
                    exact absurd c86 (by decide)
                · skip
                  exact absurd c72 (by decide)
              · skip
                exact absurd c60 (by decide)
  · skip
    obtain rfl : kk = (6 : Int32) := i32_eq hk
    refine WP.iloadN K 1 own_b1_0 rfl rfl ?_
    refine WP.newarray K 3 6 6 1 6 (hw _ (List.mem_of_getElem? (i := 1) rfl)) own_b1_1 rfl rfl (Nat.le_refl _) (by decide) rfl rfl (by decide) (by decide) (fun h49 t z_t E50 V51 => ?_)
    have l_b_t : @LT.lt Nat _ b t := z_t ▸ A_b.lt
    have n0_t : @LE.le Nat _ n0 t := z_t ▸ Z0
    have Z0 : n0 ≤ (h49).size := Nat.le_trans Z0 E50.1
    have A_b := A_b.ext E50
    have Kp := Kp.ext E50
    have A_t := ArI.of_new V51
    have A_t : ArI Z h49 t [(0 : Int32), (0 : Int32), (0 : Int32), (0 : Int32), (0 : Int32), (0 : Int32)] := A_t
    refine WP.astoreN K 4 [.val (.ref b), .val (.int (6 : Int32)), .val (.ref t)] own_b1_3 rfl rfl rfl ?_
    refine WP.iloadN K 5 own_b1_4 rfl rfl ?_
    refine WP.if_le K 14 8 own_b1_5 (by decide) rfl (fun c5 => ?_) (fun c5 => ?_)
    · skip
      exact absurd c5 (by decide)
    · skip
      refine WP.aloadN K 9 own_b1_8 rfl rfl rfl ?_
      refine WP.iconst K (0 : Int32) 10 own_b1_9 rfl rfl ?_
      refine WP.aloadN K 11 own_b1_10 rfl rfl rfl ?_
      refine WP.iconst K (0 : Int32) 12 own_b1_11 rfl rfl ?_
      refine WP.iaload K 13 0 A_b rfl rfl own_b1_12 rfl ?_
      refine WP.iastore K 14 0 A_t rfl (by simp) own_b1_13 rfl n0_t (fun h52 K53 A_t => ?_)
      have Z0 : n0 ≤ (h52).size := Nat.le_trans Z0 K53.1
      have A_b := A_b.keep K53 (nm1 (by omega))
      have Kp := Kp.trans K53 (ks1 (by first | (refine Or.inl ?_; simp; done) | (refine Or.inr ?_; omega)))
      have A_t : ArI Z h52 t [x0, (0 : Int32), (0 : Int32), (0 : Int32), (0 : Int32), (0 : Int32)] := A_t
      refine WP.iloadN K 15 own_b1_14 rfl rfl ?_
      refine WP.iconst K (1 : Int32) 16 own_b1_15 rfl rfl ?_
      refine WP.icmp_le K 25 19 own_b1_16 (by decide) rfl (fun c16 => ?_) (fun c16 => ?_)
      · skip
        exact absurd c16 (by decide)
      · skip
        refine WP.aloadN K 20 own_b1_19 rfl rfl rfl ?_
        refine WP.iconst K (1 : Int32) 21 own_b1_20 rfl rfl ?_
        refine WP.aloadN K 22 own_b1_21 rfl rfl rfl ?_
        refine WP.iconst K (1 : Int32) 23 own_b1_22 rfl rfl ?_
        refine WP.iaload K 24 1 A_b rfl rfl own_b1_23 rfl ?_
        refine WP.iastore K 25 1 A_t rfl (by simp) own_b1_24 rfl n0_t (fun h54 K55 A_t => ?_)
        have Z0 : n0 ≤ (h54).size := Nat.le_trans Z0 K55.1
        have A_b := A_b.keep K55 (nm1 (by omega))
        have Kp := Kp.trans K55 (ks1 (by first | (refine Or.inl ?_; simp; done) | (refine Or.inr ?_; omega)))
        have A_t : ArI Z h54 t [x0, x1, (0 : Int32), (0 : Int32), (0 : Int32), (0 : Int32)] := A_t
        refine WP.iloadN K 26 own_b1_25 rfl rfl ?_
        refine WP.iconst K (2 : Int32) 27 own_b1_26 rfl rfl ?_
        refine WP.icmp_le K 36 30 own_b1_27 (by decide) rfl (fun c27 => ?_) (fun c27 => ?_)
        · skip
          exact absurd c27 (by decide)
        · skip
          refine WP.aloadN K 31 own_b1_30 rfl rfl rfl ?_
          refine WP.iconst K (2 : Int32) 32 own_b1_31 rfl rfl ?_
          refine WP.aloadN K 33 own_b1_32 rfl rfl rfl ?_
          refine WP.iconst K (2 : Int32) 34 own_b1_33 rfl rfl ?_
          refine WP.iaload K 35 2 A_b rfl rfl own_b1_34 rfl ?_
          refine WP.iastore K 36 2 A_t rfl (by simp) own_b1_35 rfl n0_t (fun h56 K57 A_t => ?_)
          have Z0 : n0 ≤ (h56).size := Nat.le_trans Z0 K57.1
          have A_b := A_b.keep K57 (nm1 (by omega))
          have Kp := Kp.trans K57 (ks1 (by first | (refine Or.inl ?_; simp; done) | (refine Or.inr ?_; omega)))
          have A_t : ArI Z h56 t [x0, x1, x2, (0 : Int32), (0 : Int32), (0 : Int32)] := A_t
          refine WP.iloadN K 37 own_b1_36 rfl rfl ?_
          refine WP.iconst K (3 : Int32) 38 own_b1_37 rfl rfl ?_
          refine WP.icmp_le K 47 41 own_b1_38 (by decide) rfl (fun c38 => ?_) (fun c38 => ?_)
          · skip
            exact absurd c38 (by decide)
          · skip
            refine WP.aloadN K 42 own_b1_41 rfl rfl rfl ?_
            refine WP.iconst K (3 : Int32) 43 own_b1_42 rfl rfl ?_
            refine WP.aloadN K 44 own_b1_43 rfl rfl rfl ?_
            refine WP.iconst K (3 : Int32) 45 own_b1_44 rfl rfl ?_
            refine WP.iaload K 46 3 A_b rfl rfl own_b1_45 rfl ?_
            refine WP.iastore K 47 3 A_t rfl (by simp) own_b1_46 rfl n0_t (fun h58 K59 A_t => ?_)
            have Z0 : n0 ≤ (h58).size := Nat.le_trans Z0 K59.1
            have A_b := A_b.keep K59 (nm1 (by omega))
            have Kp := Kp.trans K59 (ks1 (by first | (refine Or.inl ?_; simp; done) | (refine Or.inr ?_; omega)))
            have A_t : ArI Z h58 t [x0, x1, x2, x3, (0 : Int32), (0 : Int32)] := A_t
            refine WP.iloadN K 48 own_b1_47 rfl rfl ?_
            refine WP.iconst K (4 : Int32) 49 own_b1_48 rfl rfl ?_
            refine WP.icmp_le K 58 52 own_b1_49 (by decide) rfl (fun c49 => ?_) (fun c49 => ?_)
            · skip
              exact absurd c49 (by decide)
            · skip
              refine WP.aloadN K 53 own_b1_52 rfl rfl rfl ?_
              refine WP.iconst K (4 : Int32) 54 own_b1_53 rfl rfl ?_
              refine WP.aloadN K 55 own_b1_54 rfl rfl rfl ?_
              refine WP.iconst K (4 : Int32) 56 own_b1_55 rfl rfl ?_
              refine WP.iaload K 57 4 A_b rfl rfl own_b1_56 rfl ?_
              refine WP.iastore K 58 4 A_t rfl (by simp) own_b1_57 rfl n0_t (fun h60 K61 A_t => ?_)
              have Z0 : n0 ≤ (h60).size := Nat.le_trans Z0 K61.1
              have A_b := A_b.keep K61 (nm1 (by omega))
              have Kp := Kp.trans K61 (ks1 (by first | (refine Or.inl ?_; simp; done) | (refine Or.inr ?_; omega)))
              have A_t : ArI Z h60 t [x0, x1, x2, x3, x4, (0 : Int32)] := A_t
              refine WP.iloadN K 59 own_b1_58 rfl rfl ?_
              refine WP.iconst K (5 : Int32) 60 own_b1_59 rfl rfl ?_
              refine WP.icmp_le K 69 63 own_b1_60 (by decide) rfl (fun c60 => ?_) (fun c60 => ?_)
              · skip
                exact absurd c60 (by decide)
              · skip
                refine WP.aloadN K 64 own_b1_63 rfl rfl rfl ?_
                refine WP.iconst K (5 : Int32) 65 own_b1_64 rfl rfl ?_
                refine WP.aloadN K 66 own_b1_65 rfl rfl rfl ?_
                refine WP.iconst K (5 : Int32) 67 own_b1_66 rfl rfl ?_
                refine WP.iaload K 68 5 A_b rfl rfl own_b1_67 rfl ?_
                refine WP.iastore K 69 5 A_t rfl (by simp) own_b1_68 rfl n0_t (fun h62 K63 A_t => ?_)
                have Z0 : n0 ≤ (h62).size := Nat.le_trans Z0 K63.1
                have A_b := A_b.keep K63 (nm1 (by omega))
                have Kp := Kp.trans K63 (ks1 (by first | (refine Or.inl ?_; simp; done) | (refine Or.inr ?_; omega)))
                have A_t : ArI Z h62 t [x0, x1, x2, x3, x4, x5] := A_t
                refine WP.iloadN K 70 own_b1_69 rfl rfl ?_
                refine WP.bipush K (6 : Int32) 72 own_b1_70 rfl rfl ?_
                refine WP.icmp_le K 83 75 own_b1_72 (by decide) rfl (fun c72 => ?_) (fun c72 => ?_)
                · skip
                  refine WP.iloadN K 84 own_b1_83 rfl rfl ?_
                  refine WP.bipush K (7 : Int32) 86 own_b1_84 rfl rfl ?_
                  refine WP.icmp_le K 97 89 own_b1_86 (by decide) rfl (fun c86 => ?_) (fun c86 => ?_)
                  · skip
                    refine WP.aloadN K 98 own_b1_97 rfl rfl rfl ?_
                    refine WP.aret K rfl rfl rfl rfl own_b1_98 ?_ (by decide) (by decide)
                    exact ⟨_, rfl, Kp, t, rfl, n0_t, Nat.le_of_eq z_t.symm, A_t⟩
                  · skip
                    exact absurd c86 (by decide)
                · skip
                  exact absurd c72 (by decide)
  · skip
    obtain rfl : kk = (7 : Int32) := i32_eq hk
    refine WP.iloadN K 1 own_b1_0 rfl rfl ?_
    refine WP.newarray K 3 7 7 1 7 (hw _ (List.mem_of_getElem? (i := 1) rfl)) own_b1_1 rfl rfl (Nat.le_refl _) (by decide) rfl rfl (by decide) (by decide) (fun h64 t z_t E65 V66 => ?_)
    have l_b_t : @LT.lt Nat _ b t := z_t ▸ A_b.lt
    have n0_t : @LE.le Nat _ n0 t := z_t ▸ Z0
    have Z0 : n0 ≤ (h64).size := Nat.le_trans Z0 E65.1
    have A_b := A_b.ext E65
    have Kp := Kp.ext E65
    have A_t := ArI.of_new V66
    have A_t : ArI Z h64 t [(0 : Int32), (0 : Int32), (0 : Int32), (0 : Int32), (0 : Int32), (0 : Int32), (0 : Int32)] := A_t
    refine WP.astoreN K 4 [.val (.ref b), .val (.int (7 : Int32)), .val (.ref t)] own_b1_3 rfl rfl rfl ?_
    refine WP.iloadN K 5 own_b1_4 rfl rfl ?_
    refine WP.if_le K 14 8 own_b1_5 (by decide) rfl (fun c5 => ?_) (fun c5 => ?_)
    · skip
      exact absurd c5 (by decide)
    · skip
      refine WP.aloadN K 9 own_b1_8 rfl rfl rfl ?_
      refine WP.iconst K (0 : Int32) 10 own_b1_9 rfl rfl ?_
      refine WP.aloadN K 11 own_b1_10 rfl rfl rfl ?_
      refine WP.iconst K (0 : Int32) 12 own_b1_11 rfl rfl ?_
      refine WP.iaload K 13 0 A_b rfl rfl own_b1_12 rfl ?_
      refine WP.iastore K 14 0 A_t rfl (by simp) own_b1_13 rfl n0_t (fun h67 K68 A_t => ?_)
      have Z0 : n0 ≤ (h67).size := Nat.le_trans Z0 K68.1
      have A_b := A_b.keep K68 (nm1 (by omega))
      have Kp := Kp.trans K68 (ks1 (by first | (refine Or.inl ?_; simp; done) | (refine Or.inr ?_; omega)))
      have A_t : ArI Z h67 t [x0, (0 : Int32), (0 : Int32), (0 : Int32), (0 : Int32), (0 : Int32), (0 : Int32)] := A_t
      refine WP.iloadN K 15 own_b1_14 rfl rfl ?_
      refine WP.iconst K (1 : Int32) 16 own_b1_15 rfl rfl ?_
      refine WP.icmp_le K 25 19 own_b1_16 (by decide) rfl (fun c16 => ?_) (fun c16 => ?_)
      · skip
        exact absurd c16 (by decide)
      · skip
        refine WP.aloadN K 20 own_b1_19 rfl rfl rfl ?_
        refine WP.iconst K (1 : Int32) 21 own_b1_20 rfl rfl ?_
        refine WP.aloadN K 22 own_b1_21 rfl rfl rfl ?_
        refine WP.iconst K (1 : Int32) 23 own_b1_22 rfl rfl ?_
        refine WP.iaload K 24 1 A_b rfl rfl own_b1_23 rfl ?_
        refine WP.iastore K 25 1 A_t rfl (by simp) own_b1_24 rfl n0_t (fun h69 K70 A_t => ?_)
        have Z0 : n0 ≤ (h69).size := Nat.le_trans Z0 K70.1
        have A_b := A_b.keep K70 (nm1 (by omega))
        have Kp := Kp.trans K70 (ks1 (by first | (refine Or.inl ?_; simp; done) | (refine Or.inr ?_; omega)))
        have A_t : ArI Z h69 t [x0, x1, (0 : Int32), (0 : Int32), (0 : Int32), (0 : Int32), (0 : Int32)] := A_t
        refine WP.iloadN K 26 own_b1_25 rfl rfl ?_
        refine WP.iconst K (2 : Int32) 27 own_b1_26 rfl rfl ?_
        refine WP.icmp_le K 36 30 own_b1_27 (by decide) rfl (fun c27 => ?_) (fun c27 => ?_)
        · skip
          exact absurd c27 (by decide)
        · skip
          refine WP.aloadN K 31 own_b1_30 rfl rfl rfl ?_
          refine WP.iconst K (2 : Int32) 32 own_b1_31 rfl rfl ?_
          refine WP.aloadN K 33 own_b1_32 rfl rfl rfl ?_
          refine WP.iconst K (2 : Int32) 34 own_b1_33 rfl rfl ?_
          refine WP.iaload K 35 2 A_b rfl rfl own_b1_34 rfl ?_
          refine WP.iastore K 36 2 A_t rfl (by simp) own_b1_35 rfl n0_t (fun h71 K72 A_t => ?_)
          have Z0 : n0 ≤ (h71).size := Nat.le_trans Z0 K72.1
          have A_b := A_b.keep K72 (nm1 (by omega))
          have Kp := Kp.trans K72 (ks1 (by first | (refine Or.inl ?_; simp; done) | (refine Or.inr ?_; omega)))
          have A_t : ArI Z h71 t [x0, x1, x2, (0 : Int32), (0 : Int32), (0 : Int32), (0 : Int32)] := A_t
          refine WP.iloadN K 37 own_b1_36 rfl rfl ?_
          refine WP.iconst K (3 : Int32) 38 own_b1_37 rfl rfl ?_
          refine WP.icmp_le K 47 41 own_b1_38 (by decide) rfl (fun c38 => ?_) (fun c38 => ?_)
          · skip
            exact absurd c38 (by decide)
          · skip
            refine WP.aloadN K 42 own_b1_41 rfl rfl rfl ?_
            refine WP.iconst K (3 : Int32) 43 own_b1_42 rfl rfl ?_
            refine WP.aloadN K 44 own_b1_43 rfl rfl rfl ?_
            refine WP.iconst K (3 : Int32) 45 own_b1_44 rfl rfl ?_
            refine WP.iaload K 46 3 A_b rfl rfl own_b1_45 rfl ?_
            refine WP.iastore K 47 3 A_t rfl (by simp) own_b1_46 rfl n0_t (fun h73 K74 A_t => ?_)
            have Z0 : n0 ≤ (h73).size := Nat.le_trans Z0 K74.1
            have A_b := A_b.keep K74 (nm1 (by omega))
            have Kp := Kp.trans K74 (ks1 (by first | (refine Or.inl ?_; simp; done) | (refine Or.inr ?_; omega)))
            have A_t : ArI Z h73 t [x0, x1, x2, x3, (0 : Int32), (0 : Int32), (0 : Int32)] := A_t
            refine WP.iloadN K 48 own_b1_47 rfl rfl ?_
            refine WP.iconst K (4 : Int32) 49 own_b1_48 rfl rfl ?_
            refine WP.icmp_le K 58 52 own_b1_49 (by decide) rfl (fun c49 => ?_) (fun c49 => ?_)
            · skip
              exact absurd c49 (by decide)
            · skip
              refine WP.aloadN K 53 own_b1_52 rfl rfl rfl ?_
              refine WP.iconst K (4 : Int32) 54 own_b1_53 rfl rfl ?_
              refine WP.aloadN K 55 own_b1_54 rfl rfl rfl ?_
              refine WP.iconst K (4 : Int32) 56 own_b1_55 rfl rfl ?_
              refine WP.iaload K 57 4 A_b rfl rfl own_b1_56 rfl ?_
              refine WP.iastore K 58 4 A_t rfl (by simp) own_b1_57 rfl n0_t (fun h75 K76 A_t => ?_)
              have Z0 : n0 ≤ (h75).size := Nat.le_trans Z0 K76.1
              have A_b := A_b.keep K76 (nm1 (by omega))
              have Kp := Kp.trans K76 (ks1 (by first | (refine Or.inl ?_; simp; done) | (refine Or.inr ?_; omega)))
              have A_t : ArI Z h75 t [x0, x1, x2, x3, x4, (0 : Int32), (0 : Int32)] := A_t
              refine WP.iloadN K 59 own_b1_58 rfl rfl ?_
              refine WP.iconst K (5 : Int32) 60 own_b1_59 rfl rfl ?_
              refine WP.icmp_le K 69 63 own_b1_60 (by decide) rfl (fun c60 => ?_) (fun c60 => ?_)
              · skip
                exact absurd c60 (by decide)
              · skip
                refine WP.aloadN K 64 own_b1_63 rfl rfl rfl ?_
                refine WP.iconst K (5 : Int32) 65 own_b1_64 rfl rfl ?_
                refine WP.aloadN K 66 own_b1_65 rfl rfl rfl ?_
                refine WP.iconst K (5 : Int32) 67 own_b1_66 rfl rfl ?_
                refine WP.iaload K 68 5 A_b rfl rfl own_b1_67 rfl ?_
                refine WP.iastore K 69 5 A_t rfl (by simp) own_b1_68 rfl n0_t (fun h77 K78 A_t => ?_)
                have Z0 : n0 ≤ (h77).size := Nat.le_trans Z0 K78.1
                have A_b := A_b.keep K78 (nm1 (by omega))
                have Kp := Kp.trans K78 (ks1 (by first | (refine Or.inl ?_; simp; done) | (refine Or.inr ?_; omega)))
                have A_t : ArI Z h77 t [x0, x1, x2, x3, x4, x5, (0 : Int32)] := A_t
                refine WP.iloadN K 70 own_b1_69 rfl rfl ?_
                refine WP.bipush K (6 : Int32) 72 own_b1_70 rfl rfl ?_
                refine WP.icmp_le K 83 75 own_b1_72 (by decide) rfl (fun c72 => ?_) (fun c72 => ?_)
                · skip
                  exact absurd c72 (by decide)
                · skip
                  refine WP.aloadN K 76 own_b1_75 rfl rfl rfl ?_
                  refine WP.bipush K (6 : Int32) 78 own_b1_76 rfl rfl ?_
                  refine WP.aloadN K 79 own_b1_78 rfl rfl rfl ?_
                  refine WP.bipush K (6 : Int32) 81 own_b1_79 rfl rfl ?_
                  refine WP.iaload K 82 6 A_b rfl rfl own_b1_81 rfl ?_
                  refine WP.iastore K 83 6 A_t rfl (by simp) own_b1_82 rfl n0_t (fun h79 K80 A_t => ?_)
                  have Z0 : n0 ≤ (h79).size := Nat.le_trans Z0 K80.1
                  have A_b := A_b.keep K80 (nm1 (by omega))
                  have Kp := Kp.trans K80 (ks1 (by first | (refine Or.inl ?_; simp; done) | (refine Or.inr ?_; omega)))
                  have A_t : ArI Z h79 t [x0, x1, x2, x3, x4, x5, x6] := A_t
                  refine WP.iloadN K 84 own_b1_83 rfl rfl ?_
                  refine WP.bipush K (7 : Int32) 86 own_b1_84 rfl rfl ?_
                  refine WP.icmp_le K 97 89 own_b1_86 (by decide) rfl (fun c86 => ?_) (fun c86 => ?_)
                  · skip
                    refine WP.aloadN K 98 own_b1_97 rfl rfl rfl ?_
                    refine WP.aret K rfl rfl rfl rfl own_b1_98 ?_ (by decide) (by decide)
                    exact ⟨_, rfl, Kp, t, rfl, n0_t, Nat.le_of_eq z_t.symm, A_t⟩
                  · skip
                    exact absurd c86 (by decide)
  · skip
    obtain rfl : kk = (8 : Int32) := i32_eq hk
    refine WP.iloadN K 1 own_b1_0 rfl rfl ?_
    refine WP.newarray K 3 8 8 1 8 (hw _ (List.mem_of_getElem? (i := 1) rfl)) own_b1_1 rfl rfl (Nat.le_refl _) (by decide) rfl rfl (by decide) (by decide) (fun h81 t z_t E82 V83 => ?_)
    have l_b_t : @LT.lt Nat _ b t := z_t ▸ A_b.lt
    have n0_t : @LE.le Nat _ n0 t := z_t ▸ Z0
    have Z0 : n0 ≤ (h81).size := Nat.le_trans Z0 E82.1
    have A_b := A_b.ext E82
    have Kp := Kp.ext E82
    have A_t := ArI.of_new V83
    have A_t : ArI Z h81 t [(0 : Int32), (0 : Int32), (0 : Int32), (0 : Int32), (0 : Int32), (0 : Int32), (0 : Int32), (0 : Int32)] := A_t
    refine WP.astoreN K 4 [.val (.ref b), .val (.int (8 : Int32)), .val (.ref t)] own_b1_3 rfl rfl rfl ?_
    refine WP.iloadN K 5 own_b1_4 rfl rfl ?_
    refine WP.if_le K 14 8 own_b1_5 (by decide) rfl (fun c5 => ?_) (fun c5 => ?_)
    · skip
      exact absurd c5 (by decide)
    · skip
      refine WP.aloadN K 9 own_b1_8 rfl rfl rfl ?_
      refine WP.iconst K (0 : Int32) 10 own_b1_9 rfl rfl ?_
      refine WP.aloadN K 11 own_b1_10 rfl rfl rfl ?_
      refine WP.iconst K (0 : Int32) 12 own_b1_11 rfl rfl ?_
      refine WP.iaload K 13 0 A_b rfl rfl own_b1_12 rfl ?_
      refine WP.iastore K 14 0 A_t rfl (by simp) own_b1_13 rfl n0_t (fun h84 K85 A_t => ?_)
      have Z0 : n0 ≤ (h84).size := Nat.le_trans Z0 K85.1
      have A_b := A_b.keep K85 (nm1 (by omega))
      have Kp := Kp.trans K85 (ks1 (by first | (refine Or.inl ?_; simp; done) | (refine Or.inr ?_; omega)))
      have A_t : ArI Z h84 t [x0, (0 : Int32), (0 : Int32), (0 : Int32), (0 : Int32), (0 : Int32), (0 : Int32), (0 : Int32)] := A_t
      refine WP.iloadN K 15 own_b1_14 rfl rfl ?_
      refine WP.iconst K (1 : Int32) 16 own_b1_15 rfl rfl ?_
      refine WP.icmp_le K 25 19 own_b1_16 (by decide) rfl (fun c16 => ?_) (fun c16 => ?_)
      · skip
        exact absurd c16 (by decide)
      · skip
        refine WP.aloadN K 20 own_b1_19 rfl rfl rfl ?_
        refine WP.iconst K (1 : Int32) 21 own_b1_20 rfl rfl ?_
        refine WP.aloadN K 22 own_b1_21 rfl rfl rfl ?_
        refine WP.iconst K (1 : Int32) 23 own_b1_22 rfl rfl ?_
        refine WP.iaload K 24 1 A_b rfl rfl own_b1_23 rfl ?_
        refine WP.iastore K 25 1 A_t rfl (by simp) own_b1_24 rfl n0_t (fun h86 K87 A_t => ?_)
        have Z0 : n0 ≤ (h86).size := Nat.le_trans Z0 K87.1
        have A_b := A_b.keep K87 (nm1 (by omega))
        have Kp := Kp.trans K87 (ks1 (by first | (refine Or.inl ?_; simp; done) | (refine Or.inr ?_; omega)))
        have A_t : ArI Z h86 t [x0, x1, (0 : Int32), (0 : Int32), (0 : Int32), (0 : Int32), (0 : Int32), (0 : Int32)] := A_t
        refine WP.iloadN K 26 own_b1_25 rfl rfl ?_
        refine WP.iconst K (2 : Int32) 27 own_b1_26 rfl rfl ?_
        refine WP.icmp_le K 36 30 own_b1_27 (by decide) rfl (fun c27 => ?_) (fun c27 => ?_)
        · skip
          exact absurd c27 (by decide)
        · skip
          refine WP.aloadN K 31 own_b1_30 rfl rfl rfl ?_
          refine WP.iconst K (2 : Int32) 32 own_b1_31 rfl rfl ?_
          refine WP.aloadN K 33 own_b1_32 rfl rfl rfl ?_
          refine WP.iconst K (2 : Int32) 34 own_b1_33 rfl rfl ?_
          refine WP.iaload K 35 2 A_b rfl rfl own_b1_34 rfl ?_
          refine WP.iastore K 36 2 A_t rfl (by simp) own_b1_35 rfl n0_t (fun h88 K89 A_t => ?_)
          have Z0 : n0 ≤ (h88).size := Nat.le_trans Z0 K89.1
          have A_b := A_b.keep K89 (nm1 (by omega))
          have Kp := Kp.trans K89 (ks1 (by first | (refine Or.inl ?_; simp; done) | (refine Or.inr ?_; omega)))
          have A_t : ArI Z h88 t [x0, x1, x2, (0 : Int32), (0 : Int32), (0 : Int32), (0 : Int32), (0 : Int32)] := A_t
          refine WP.iloadN K 37 own_b1_36 rfl rfl ?_
          refine WP.iconst K (3 : Int32) 38 own_b1_37 rfl rfl ?_
          refine WP.icmp_le K 47 41 own_b1_38 (by decide) rfl (fun c38 => ?_) (fun c38 => ?_)
          · skip
            exact absurd c38 (by decide)
          · skip
            refine WP.aloadN K 42 own_b1_41 rfl rfl rfl ?_
            refine WP.iconst K (3 : Int32) 43 own_b1_42 rfl rfl ?_
            refine WP.aloadN K 44 own_b1_43 rfl rfl rfl ?_
            refine WP.iconst K (3 : Int32) 45 own_b1_44 rfl rfl ?_
            refine WP.iaload K 46 3 A_b rfl rfl own_b1_45 rfl ?_
            refine WP.iastore K 47 3 A_t rfl (by simp) own_b1_46 rfl n0_t (fun h90 K91 A_t => ?_)
            have Z0 : n0 ≤ (h90).size := Nat.le_trans Z0 K91.1
            have A_b := A_b.keep K91 (nm1 (by omega))
            have Kp := Kp.trans K91 (ks1 (by first | (refine Or.inl ?_; simp; done) | (refine Or.inr ?_; omega)))
            have A_t : ArI Z h90 t [x0, x1, x2, x3, (0 : Int32), (0 : Int32), (0 : Int32), (0 : Int32)] := A_t
            refine WP.iloadN K 48 own_b1_47 rfl rfl ?_
            refine WP.iconst K (4 : Int32) 49 own_b1_48 rfl rfl ?_
            refine WP.icmp_le K 58 52 own_b1_49 (by decide) rfl (fun c49 => ?_) (fun c49 => ?_)
            · skip
              exact absurd c49 (by decide)
            · skip
              refine WP.aloadN K 53 own_b1_52 rfl rfl rfl ?_
              refine WP.iconst K (4 : Int32) 54 own_b1_53 rfl rfl ?_
              refine WP.aloadN K 55 own_b1_54 rfl rfl rfl ?_
              refine WP.iconst K (4 : Int32) 56 own_b1_55 rfl rfl ?_
              refine WP.iaload K 57 4 A_b rfl rfl own_b1_56 rfl ?_
              refine WP.iastore K 58 4 A_t rfl (by simp) own_b1_57 rfl n0_t (fun h92 K93 A_t => ?_)
              have Z0 : n0 ≤ (h92).size := Nat.le_trans Z0 K93.1
              have A_b := A_b.keep K93 (nm1 (by omega))
              have Kp := Kp.trans K93 (ks1 (by first | (refine Or.inl ?_; simp; done) | (refine Or.inr ?_; omega)))
              have A_t : ArI Z h92 t [x0, x1, x2, x3, x4, (0 : Int32), (0 : Int32), (0 : Int32)] := A_t
              refine WP.iloadN K 59 own_b1_58 rfl rfl ?_
              refine WP.iconst K (5 : Int32) 60 own_b1_59 rfl rfl ?_
              refine WP.icmp_le K 69 63 own_b1_60 (by decide) rfl (fun c60 => ?_) (fun c60 => ?_)
              · skip
                exact absurd c60 (by decide)
              · skip
                refine WP.aloadN K 64 own_b1_63 rfl rfl rfl ?_
                refine WP.iconst K (5 : Int32) 65 own_b1_64 rfl rfl ?_
                refine WP.aloadN K 66 own_b1_65 rfl rfl rfl ?_
                refine WP.iconst K (5 : Int32) 67 own_b1_66 rfl rfl ?_
                refine WP.iaload K 68 5 A_b rfl rfl own_b1_67 rfl ?_
                refine WP.iastore K 69 5 A_t rfl (by simp) own_b1_68 rfl n0_t (fun h94 K95 A_t => ?_)
                have Z0 : n0 ≤ (h94).size := Nat.le_trans Z0 K95.1
                have A_b := A_b.keep K95 (nm1 (by omega))
                have Kp := Kp.trans K95 (ks1 (by first | (refine Or.inl ?_; simp; done) | (refine Or.inr ?_; omega)))
                have A_t : ArI Z h94 t [x0, x1, x2, x3, x4, x5, (0 : Int32), (0 : Int32)] := A_t
                refine WP.iloadN K 70 own_b1_69 rfl rfl ?_
                refine WP.bipush K (6 : Int32) 72 own_b1_70 rfl rfl ?_
                refine WP.icmp_le K 83 75 own_b1_72 (by decide) rfl (fun c72 => ?_) (fun c72 => ?_)
                · skip
                  exact absurd c72 (by decide)
                · skip
                  refine WP.aloadN K 76 own_b1_75 rfl rfl rfl ?_
                  refine WP.bipush K (6 : Int32) 78 own_b1_76 rfl rfl ?_
                  refine WP.aloadN K 79 own_b1_78 rfl rfl rfl ?_
                  refine WP.bipush K (6 : Int32) 81 own_b1_79 rfl rfl ?_
                  refine WP.iaload K 82 6 A_b rfl rfl own_b1_81 rfl ?_
                  refine WP.iastore K 83 6 A_t rfl (by simp) own_b1_82 rfl n0_t (fun h96 K97 A_t => ?_)
                  have Z0 : n0 ≤ (h96).size := Nat.le_trans Z0 K97.1
                  have A_b := A_b.keep K97 (nm1 (by omega))
                  have Kp := Kp.trans K97 (ks1 (by first | (refine Or.inl ?_; simp; done) | (refine Or.inr ?_; omega)))
                  have A_t : ArI Z h96 t [x0, x1, x2, x3, x4, x5, x6, (0 : Int32)] := A_t
                  refine WP.iloadN K 84 own_b1_83 rfl rfl ?_
                  refine WP.bipush K (7 : Int32) 86 own_b1_84 rfl rfl ?_
                  refine WP.icmp_le K 97 89 own_b1_86 (by decide) rfl (fun c86 => ?_) (fun c86 => ?_)
                  · skip
                    exact absurd c86 (by decide)
                  · skip
                    refine WP.aloadN K 90 own_b1_89 rfl rfl rfl ?_
                    refine WP.bipush K (7 : Int32) 92 own_b1_90 rfl rfl ?_
                    refine WP.aloadN K 93 own_b1_92 rfl rfl rfl ?_
                    refine WP.bipush K (7 : Int32) 95 own_b1_93 rfl rfl ?_
                    refine WP.iaload K 96 7 A_b rfl rfl own_b1_95 rfl ?_
                    refine WP.iastore K 97 7 A_t rfl (by simp) own_b1_96 rfl n0_t (fun h98 K99 A_t => ?_)
                    have Z0 : n0 ≤ (h98).size := Nat.le_trans Z0 K99.1
                    have A_b := A_b.keep K99 (nm1 (by omega))
                    have Kp := Kp.trans K99 (ks1 (by first | (refine Or.inl ?_; simp; done) | (refine Or.inr ?_; omega)))
                    have A_t : ArI Z h98 t [x0, x1, x2, x3, x4, x5, x6, x7] := A_t
                    refine WP.aloadN K 98 own_b1_97 rfl rfl rfl ?_
                    refine WP.aret K rfl rfl rfl rfl own_b1_98 ?_ (by decide) (by decide)
                    exact ⟨_, rfl, Kp, t, rfl, n0_t, Nat.le_of_eq z_t.symm, A_t⟩
theorem own_b2_0 : decode prog_93_method_18_code 0 = .ok (.iload_n 0, 1) := by decide +kernel
theorem own_b2_1 : decode prog_93_method_18_code 1 = .ok (.aload_n 1, 1) := by decide +kernel
theorem own_b2_2 : decode prog_93_method_18_code 2 = .ok (.arraylength, 1) := by decide +kernel
theorem own_b2_3 : decode prog_93_method_18_code 3 = .ok (.isub, 1) := by decide +kernel
theorem own_b2_4 : decode prog_93_method_18_code 4 = .ok (.newarray .int, 2) := by decide +kernel
theorem own_b2_6 : decode prog_93_method_18_code 6 = .ok (.astore_n 2, 1) := by decide +kernel
theorem own_b2_7 : decode prog_93_method_18_code 7 = .ok (.iconst 0, 1) := by decide +kernel
theorem own_b2_8 : decode prog_93_method_18_code 8 = .ok (.istore_n 3, 1) := by decide +kernel
theorem own_b2_9 : decode prog_93_method_18_code 9 = .ok (.iconst 0, 1) := by decide +kernel
theorem own_b2_10 : decode prog_93_method_18_code 10 = .ok (.istore 4, 2) := by decide +kernel
theorem own_b2_12 : decode prog_93_method_18_code 12 = .ok (.iconst 0, 1) := by decide +kernel
theorem own_b2_13 : decode prog_93_method_18_code 13 = .ok (.istore 5, 2) := by decide +kernel
theorem own_b2_15 : decode prog_93_method_18_code 15 = .ok (.iload 5, 2) := by decide +kernel
theorem own_b2_17 : decode prog_93_method_18_code 17 = .ok (.iload_n 0, 1) := by decide +kernel
theorem own_b2_18 : decode prog_93_method_18_code 18 = .ok (.if_icmp .ge 38, 3) := by decide +kernel
theorem own_b2_21 : decode prog_93_method_18_code 21 = .ok (.iload_n 3, 1) := by decide +kernel
theorem own_b2_22 : decode prog_93_method_18_code 22 = .ok (.aload_n 1, 1) := by decide +kernel
theorem own_b2_23 : decode prog_93_method_18_code 23 = .ok (.arraylength, 1) := by decide +kernel
theorem own_b2_24 : decode prog_93_method_18_code 24 = .ok (.if_icmp .ge 17, 3) := by decide +kernel
theorem own_b2_27 : decode prog_93_method_18_code 27 = .ok (.aload_n 1, 1) := by decide +kernel
theorem own_b2_28 : decode prog_93_method_18_code 28 = .ok (.iload_n 3, 1) := by decide +kernel
theorem own_b2_29 : decode prog_93_method_18_code 29 = .ok (.iaload, 1) := by decide +kernel
theorem own_b2_30 : decode prog_93_method_18_code 30 = .ok (.iload 5, 2) := by decide +kernel
theorem own_b2_32 : decode prog_93_method_18_code 32 = .ok (.if_icmp .ne 9, 3) := by decide +kernel
theorem own_b2_35 : decode prog_93_method_18_code 35 = .ok (.iinc 3 1, 3) := by decide +kernel
theorem own_b2_38 : decode prog_93_method_18_code 38 = .ok (.goto 12, 3) := by decide +kernel
theorem own_b2_41 : decode prog_93_method_18_code 41 = .ok (.aload_n 2, 1) := by decide +kernel
theorem own_b2_42 : decode prog_93_method_18_code 42 = .ok (.iload 4, 2) := by decide +kernel
theorem own_b2_44 : decode prog_93_method_18_code 44 = .ok (.iinc 4 1, 3) := by decide +kernel
theorem own_b2_47 : decode prog_93_method_18_code 47 = .ok (.iload 5, 2) := by decide +kernel
theorem own_b2_49 : decode prog_93_method_18_code 49 = .ok (.iastore, 1) := by decide +kernel
theorem own_b2_50 : decode prog_93_method_18_code 50 = .ok (.iinc 5 1, 3) := by decide +kernel
theorem own_b2_53 : decode prog_93_method_18_code 53 = .ok (.goto (-38), 3) := by decide +kernel
theorem own_b2_56 : decode prog_93_method_18_code 56 = .ok (.aload_n 2, 1) := by decide +kernel
theorem own_b2_57 : decode prog_93_method_18_code 57 = .ok (.areturn, 1) := by decide +kernel
theorem own_pf_b2 : plainFor (⟨"com/example/curtail/curtail/LiveDocuments", "live", "(I[I)[I"⟩ : MethodName) = true := by first | exact plainFor_of_name (by first | (simp [plainName, overriddenIn, x]; done) | decide +kernel) | decide +kernel
set_option maxRecDepth 65536 in
set_option maxHeartbeats 40000000 in
theorem own_live (l : Launch) (Z : State) (a0 : Array Value) (hw : ∀ d ∈ tables_1, d.before a0 Z = true) (n0 : Nat) (h : Heap) (b : Nat) (cc : Int32) (f : Nat → Bool) (C : Nat) (Z0 : n0 ≤ h.size) (A_b : ArI Z h b (own_ls f C)) (hc : cc.toInt = (C : Nat)) (hC : C ≤ 8) :
    Con l Z (⟨"com/example/curtail/curtail/LiveDocuments", "live", "(I[I)[I"⟩ : MethodName) prog_93_method_18_code 6 (some (.array .int)) ({ frames := 0, cells := 1, slots := 8, locals := 0 } : Room) n0 #[(.int cc), (.ref b)] h (R1 fun r h' => Keep h h' [] ∧ ∃ a : Nat, r = .ref a ∧ n0 ≤ a ∧ h.size ≤ a ∧ ArI Z h' a (own_ls (fun j => !f j) C)) := by
  refine Con.of (ls := [.val (.int cc), .val (.ref b), .unset, .unset, .unset, .unset]) own_pf_b2 (fun m => by first | (simp [entryFrame, mkF, argsToLocals, Value.category]; done) | rfl) fun k K => ?_
  have k_0 : (0 : Int32).toInt = 0 := rfl
  have k_1 : (1 : Int32).toInt = 1 := rfl
  have Kp := Keep.refl h []
  have both := own_len_both f C
  obtain ⟨z, hz⟩ : ∃ z : Int32, z.toInt = ((own_ls f C).length : Nat) := i32_of (by omega)
  refine WP.iloadN K 1 own_b2_0 rfl rfl ?_
  refine WP.aloadN K 2 own_b2_1 rfl rfl rfl ?_
  refine WP.arraylength K z 3 A_b (by rw [hz]; simp) own_b2_2 rfl ?_
  refine WP.isub K 4 own_b2_3 rfl ?_
  refine WP.newarray K 6 ((own_ls (fun j => !f j) C).length) 8 1 8 (hw _ (List.mem_of_getElem? (i := 1) rfl)) own_b2_4 rfl (by rw [i32_sub (by omega) (by omega)]; omega) (by omega) (by decide) rfl rfl (by decide) (by decide) (fun h1 t z_t E2 V3 => ?_)
  have l_b_t : @LT.lt Nat _ b t := z_t ▸ A_b.lt
  have n0_t : @LE.le Nat _ n0 t := z_t ▸ Z0
  have Z0 : n0 ≤ (h1).size := Nat.le_trans Z0 E2.1
  have A_b := A_b.ext E2
  have Kp := Kp.ext E2
  have A_t := ArI.of_new V3
  refine WP.astoreN K 7 [.val (.int cc), .val (.ref b), .val (.ref t), .unset, .unset, .unset] own_b2_6 rfl rfl rfl ?_
  have loop : ∀ (m n : Nat) (hh : Heap) (d e i : Int32), n + m = C → i.toInt = (n : Nat) → d.toInt = ((own_ls f n).length : Nat) → e.toInt = ((own_ls (fun j => !f j) n).length : Nat) → Keep h hh [] → ArI Z hh b (own_ls f C) → ArI Z hh t ((own_ls (fun j => !f j) n) ++ List.replicate ((own_ls (fun j => !f j) C).length - (own_ls (fun j => !f j) n).length) 0) →
      WP k hh 1 8 15 [.val (.int cc), .val (.ref b), .val (.ref t), .val (.int d), .val (.int e), .val (.int i)] [] := by
    intro m
    induction m with
    | zero =>
      intro n hh d e i hm hi hd he Kp A_b A_t
      refine WP.iload K 17 own_b2_15 rfl rfl ?_
      refine WP.iloadN K 18 own_b2_17 rfl rfl ?_
      refine WP.icmp_ge K 56 21 own_b2_18 (by decide) rfl (fun c18 => ?_) (fun c18 => ?_)
      · skip
        refine WP.aloadN K 57 own_b2_56 rfl rfl rfl ?_
        refine WP.aret K rfl rfl rfl rfl own_b2_57 ?_ (by decide) (by decide)
        have en : n = C := by omega
        subst en
        rw [Nat.sub_self, List.replicate_zero, List.append_nil] at A_t
        exact ⟨_, rfl, Kp, t, rfl, n0_t, Nat.le_of_eq z_t.symm, A_t⟩
      · skip
        exfalso; omega
    | succ m ih =>
      intro n hh d e i hm hi hd he Kp A_b A_t
      have bn := own_len_both f n
      have bn1 := own_len_both f (n + 1)
      have mo1 := own_len_mono f (n + 1) m
      have mo2 := own_len_mono (fun j => !f j) (n + 1) m
      rw [show n + 1 + m = C by omega] at mo1 mo2
      have nn : (f n = true ∧ (own_ls f C)[(own_ls f n).length]? = some (Int32.ofNat n)) ∨ (f n = false ∧ ∀ v, (own_ls f C)[(own_ls f n).length]? = some v → (n : Int) < v.toInt) := by
        cases hf : f n
        · refine Or.inr ⟨rfl, fun v hv => own_next_no hf m (by omega) _ v (Nat.le_refl _) (by rw [show n + 1 + m = C by omega]; exact hv)⟩
        · refine Or.inl ⟨rfl, ?_⟩
          have := own_next_yes hf m
          rw [show n + 1 + m = C by omega] at this; exact this
      refine WP.iload K 17 own_b2_15 rfl rfl ?_
      refine WP.iloadN K 18 own_b2_17 rfl rfl ?_
      refine WP.icmp_ge K 56 21 own_b2_18 (by decide) rfl (fun c18 => ?_) (fun c18 => ?_)
      · skip
        exfalso; omega
      · skip
        refine WP.iloadN K 22 own_b2_21 rfl rfl ?_
        refine WP.aloadN K 23 own_b2_22 rfl rfl rfl ?_
        refine WP.arraylength K z 24 A_b (by rw [hz]; simp) own_b2_23 rfl ?_
        refine WP.icmp_ge K 41 27 own_b2_24 (by decide) rfl (fun c24 => ?_) (fun c24 => ?_)
        · skip
          have hf : f n = false := by
            rcases nn with ⟨q, r⟩ | ⟨q, -⟩
            · have := (List.getElem?_eq_some_iff.mp r).1; omega
            · exact q
          have ly := own_ls_yes (f := fun j => !f j) (n := n) (by simp [hf])
          have ln := own_ls_no hf
          have lyl := congrArg List.length ly
          simp only [List.length_append, List.length_singleton] at lyl
          refine WP.aloadN K 42 own_b2_41 rfl rfl rfl ?_
          refine WP.iload K 44 own_b2_42 rfl rfl ?_
          refine WP.iinc K (1 : Int32) 47 [.val (.int cc), .val (.ref b), .val (.ref t), .val (.int d), .val (.int (e + (1 : Int32))), .val (.int i)] own_b2_44 rfl rfl rfl rfl ?_
          refine WP.iload K 49 own_b2_47 rfl rfl ?_
          refine WP.iastore K 50 ((own_ls (fun j => !f j) n).length) A_t he (by simp only [List.length_append, List.length_replicate]; omega) own_b2_49 rfl n0_t (fun h4 K5 A_t => ?_)
          have A_b := A_b.keep K5 (nm1 (by omega))
          have Kp := Kp.trans K5 (ks1 (by first | (refine Or.inl ?_; simp; done) | (refine Or.inr ?_; omega)))
          refine WP.iinc K (1 : Int32) 53 [.val (.int cc), .val (.ref b), .val (.ref t), .val (.int d), .val (.int (e + (1 : Int32))), .val (.int (i + (1 : Int32)))] own_b2_50 rfl rfl rfl rfl ?_
          refine WP.goto K 15 own_b2_53 (by decide) ?_
          rw [own_put _ _ _ _ rfl (by omega)] at A_t
          have ei : i = Int32.ofNat n := i32_eq (by rw [hi, Int32.toInt_ofNat_of_lt (by omega)])
          rw [ei, ← ly, show (own_ls (fun j => !f j) C).length - (own_ls (fun j => !f j) n).length - 1 = (own_ls (fun j => !f j) C).length - (own_ls (fun j => !f j) (n + 1)).length by omega] at A_t
          exact ih (n + 1) _ _ _ _ (by omega) (inc32 hi (by omega)) (by rw [ln]; exact hd) (by rw [inc32 he (by omega)]; omega) Kp A_b A_t
        · skip
          obtain ⟨v, hv⟩ : ∃ v, (own_ls f C)[(own_ls f n).length]? = some v := ⟨_, List.getElem?_eq_getElem (by omega)⟩
          refine WP.aloadN K 28 own_b2_27 rfl rfl rfl ?_
          refine WP.iloadN K 29 own_b2_28 rfl rfl ?_
          refine WP.iaload K 30 ((own_ls f n).length) A_b hd hv own_b2_29 rfl ?_
          refine WP.iload K 32 own_b2_30 rfl rfl ?_
          refine WP.icmp_ne K 41 35 own_b2_32 (by decide) rfl (fun c32 => ?_) (fun c32 => ?_)
          · skip
            have hf : f n = false := by
              rcases nn with ⟨q, r⟩ | ⟨q, -⟩
              · rw [hv] at r; cases r; rw [Int32.toInt_ofNat_of_lt (by omega)] at c32; omega
              · exact q
            have ly := own_ls_yes (f := fun j => !f j) (n := n) (by simp [hf])
            have ln := own_ls_no hf
            have lyl := congrArg List.length ly
            simp only [List.length_append, List.length_singleton] at lyl
            refine WP.aloadN K 42 own_b2_41 rfl rfl rfl ?_
            refine WP.iload K 44 own_b2_42 rfl rfl ?_
            refine WP.iinc K (1 : Int32) 47 [.val (.int cc), .val (.ref b), .val (.ref t), .val (.int d), .val (.int (e + (1 : Int32))), .val (.int i)] own_b2_44 rfl rfl rfl rfl ?_
            refine WP.iload K 49 own_b2_47 rfl rfl ?_
            refine WP.iastore K 50 ((own_ls (fun j => !f j) n).length) A_t he (by simp only [List.length_append, List.length_replicate]; omega) own_b2_49 rfl n0_t (fun h6 K7 A_t => ?_)
            have A_b := A_b.keep K7 (nm1 (by omega))
            have Kp := Kp.trans K7 (ks1 (by first | (refine Or.inl ?_; simp; done) | (refine Or.inr ?_; omega)))
            refine WP.iinc K (1 : Int32) 53 [.val (.int cc), .val (.ref b), .val (.ref t), .val (.int d), .val (.int (e + (1 : Int32))), .val (.int (i + (1 : Int32)))] own_b2_50 rfl rfl rfl rfl ?_
            refine WP.goto K 15 own_b2_53 (by decide) ?_
            rw [own_put _ _ _ _ rfl (by omega)] at A_t
            have ei : i = Int32.ofNat n := i32_eq (by rw [hi, Int32.toInt_ofNat_of_lt (by omega)])
            rw [ei, ← ly, show (own_ls (fun j => !f j) C).length - (own_ls (fun j => !f j) n).length - 1 = (own_ls (fun j => !f j) C).length - (own_ls (fun j => !f j) (n + 1)).length by omega] at A_t
            exact ih (n + 1) _ _ _ _ (by omega) (inc32 hi (by omega)) (by rw [ln]; exact hd) (by rw [inc32 he (by omega)]; omega) Kp A_b A_t
          · skip
            have hf : f n = true := by
              rcases nn with ⟨q, -⟩ | ⟨-, r⟩
              · exact q
              · have := r v hv; omega
            refine WP.iinc K (1 : Int32) 38 [.val (.int cc), .val (.ref b), .val (.ref t), .val (.int (d + (1 : Int32))), .val (.int e), .val (.int i)] own_b2_35 rfl rfl rfl rfl ?_
            refine WP.goto K 50 own_b2_38 (by decide) ?_
            refine WP.iinc K (1 : Int32) 53 [.val (.int cc), .val (.ref b), .val (.ref t), .val (.int (d + (1 : Int32))), .val (.int e), .val (.int (i + (1 : Int32)))] own_b2_50 rfl rfl rfl rfl ?_
            refine WP.goto K 15 own_b2_53 (by decide) ?_
            have ly := own_ls_yes hf
            have ln := own_ls_no (f := fun j => !f j) (n := n) (by simp [hf])
            have lyl := congrArg List.length ly
            simp only [List.length_append, List.length_singleton] at lyl
            rw [← ln] at A_t
            exact ih (n + 1) _ _ _ _ (by omega) (inc32 hi (by omega)) (by rw [inc32 hd (by omega)]; omega) (by rw [ln]; exact he) Kp A_b A_t
  refine WP.iconst K (0 : Int32) 8 own_b2_7 rfl rfl ?_
  refine WP.istoreN K 9 [.val (.int cc), .val (.ref b), .val (.ref t), .val (.int (0 : Int32)), .unset, .unset] own_b2_8 rfl rfl ?_
  refine WP.iconst K (0 : Int32) 10 own_b2_9 rfl rfl ?_
  refine WP.istore K 12 [.val (.int cc), .val (.ref b), .val (.ref t), .val (.int (0 : Int32)), .val (.int (0 : Int32)), .unset] own_b2_10 rfl rfl ?_
  refine WP.iconst K (0 : Int32) 13 own_b2_12 rfl rfl ?_
  refine WP.istore K 15 [.val (.int cc), .val (.ref b), .val (.ref t), .val (.int (0 : Int32)), .val (.int (0 : Int32)), .val (.int (0 : Int32))] own_b2_13 rfl rfl ?_
  exact loop C 0 _ _ _ _ (by omega) rfl rfl rfl Kp A_b A_t
theorem own_b3_0 : decode method_3_code 0 = .ok (.iload_n 2, 1) := by decide +kernel
theorem own_b3_1 : decode method_3_code 1 = .ok (.aload_n 0, 1) := by decide +kernel
theorem own_b3_2 : decode method_3_code 2 = .ok (.arraylength, 1) := by decide +kernel
theorem own_b3_3 : decode method_3_code 3 = .ok (.if_icmp .ge 12, 3) := by decide +kernel
theorem own_b3_6 : decode method_3_code 6 = .ok (.aload_n 0, 1) := by decide +kernel
theorem own_b3_7 : decode method_3_code 7 = .ok (.iload_n 2, 1) := by decide +kernel
theorem own_b3_8 : decode method_3_code 8 = .ok (.iaload, 1) := by decide +kernel
theorem own_b3_9 : decode method_3_code 9 = .ok (.aload_n 1, 1) := by decide +kernel
theorem own_b3_10 : decode method_3_code 10 = .ok (.iload_n 2, 1) := by decide +kernel
theorem own_b3_11 : decode method_3_code 11 = .ok (.iaload, 1) := by decide +kernel
theorem own_b3_12 : decode method_3_code 12 = .ok (.if_icmp .ne 7, 3) := by decide +kernel
theorem own_b3_15 : decode method_3_code 15 = .ok (.iconst 1, 1) := by decide +kernel
theorem own_b3_16 : decode method_3_code 16 = .ok (.goto 4, 3) := by decide +kernel
theorem own_b3_19 : decode method_3_code 19 = .ok (.iconst 0, 1) := by decide +kernel
theorem own_b3_20 : decode method_3_code 20 = .ok (.ireturn, 1) := by decide +kernel
theorem own_pf_b3 : plainFor (⟨"com/example/curtail/curtail/LiveDocumentsLivePinLaw", "at", "([I[II)Z"⟩ : MethodName) = true := by first | exact plainFor_of_name (by first | (simp [plainName, overriddenIn, x]; done) | decide +kernel) | decide +kernel
set_option maxRecDepth 65536 in
set_option maxHeartbeats 40000000 in
theorem own_cmp (l : Launch) (Z : State) (a0 : Array Value) (hw : ∀ d ∈ tables_1, d.before a0 Z = true) (n0 : Nat) (h : Heap) (r e : Nat) (i : Int32) (rs es : List Int32) (n : Nat) (A_r : ArI Z h r rs) (A_e : ArI Z h e es) (hi : i.toInt = (n : Nat)) (hh : ∀ v, rs[n]? = some v → es[n]? = some v) :
    Con l Z (⟨"com/example/curtail/curtail/LiveDocumentsLivePinLaw", "at", "([I[II)Z"⟩ : MethodName) method_3_code 3 (some .boolean) ({ frames := 0, cells := 0, slots := 0, locals := 0 } : Room) n0 #[(.ref r), (.ref e), (.int i)] h (R1 fun r h' => r = .int 1 ∧ h = h') := by
  refine Con.of (ls := [.val (.ref r), .val (.ref e), .val (.int i)]) own_pf_b3 (fun m => by first | (simp [entryFrame, mkF, argsToLocals, Value.category]; done) | rfl) fun k K => ?_
  have k_0 : (0 : Int32).toInt = 0 := rfl
  have k_1 : (1 : Int32).toInt = 1 := rfl
  obtain ⟨z, hz⟩ := i32_of A_r.len
  refine WP.iloadN K 1 own_b3_0 rfl rfl ?_
  refine WP.aloadN K 2 own_b3_1 rfl rfl rfl ?_
  refine WP.arraylength K z 3 A_r (by rw [hz]; simp) own_b3_2 rfl ?_
  refine WP.icmp_ge K 15 6 own_b3_3 (by decide) rfl (fun c3 => ?_) (fun c3 => ?_)
  · skip
    refine WP.iconst K (1 : Int32) 16 own_b3_15 rfl rfl ?_
    refine WP.goto K 20 own_b3_16 (by decide) ?_
    refine WP.iret K rfl (Or.inr (Or.inl rfl)) rfl own_b3_20 ?_ (by decide) (by decide)
    exact ⟨_, rfl, rfl, rfl⟩
  · skip
    obtain ⟨v, hv⟩ : ∃ v, rs[n]? = some v := ⟨_, List.getElem?_eq_getElem (by omega)⟩
    refine WP.aloadN K 7 own_b3_6 rfl rfl rfl ?_
    refine WP.iloadN K 8 own_b3_7 rfl rfl ?_
    refine WP.iaload K 9 n A_r hi hv own_b3_8 rfl ?_
    refine WP.aloadN K 10 own_b3_9 rfl rfl rfl ?_
    refine WP.iloadN K 11 own_b3_10 rfl rfl ?_
    refine WP.iaload K 12 n A_e hi (hh v hv) own_b3_11 rfl ?_
    refine WP.icmp_ne K 19 15 own_b3_12 (by decide) rfl (fun c12 => ?_) (fun c12 => ?_)
    · skip
      exact absurd rfl c12
    · skip
      refine WP.iconst K (1 : Int32) 16 own_b3_15 rfl rfl ?_
      refine WP.goto K 20 own_b3_16 (by decide) ?_
      refine WP.iret K rfl (Or.inr (Or.inl rfl)) rfl own_b3_20 ?_ (by decide) (by decide)
      exact ⟨_, rfl, rfl, rfl⟩
theorem own_pf_law : plainFor x = true := by first | exact plainFor_of_name (by first | (simp [plainName, overriddenIn, x]; done) | decide +kernel) | decide +kernel
theorem own_pd_0 : parseMethodDescriptor "([II)[I" = some ⟨[(.array .int), .int], some (.array .int)⟩ := by decide +kernel
theorem own_pd_1 : parseMethodDescriptor "(I[I)[I" = some ⟨[.int, (.array .int)], some (.array .int)⟩ := by decide +kernel
theorem own_pd_2 : parseMethodDescriptor "([I[II)Z" = some ⟨[(.array .int), (.array .int), .int], some .boolean⟩ := by decide +kernel
set_option maxRecDepth 65536 in
set_option maxHeartbeats 40000000 in
theorem own_law (l : Launch) (Z : State) (a0 : Array Value) (hw : ∀ d ∈ tables_1, d.before a0 Z = true) (n0 : Nat) (h : Heap) (p p2 : Int32) (Z0 : n0 ≤ h.size) :
    Con l Z x code maxLocals ret room_1 n0 #[(.int p), (.int p2)] h (R1 fun r h' => r = .int 1) := by
  refine Con.of (ls := [.val (.int p), .val (.int p2), .unset, .unset, .unset, .unset, .unset, .unset, .unset, .unset]) own_pf_law (fun m => by first | (simp [entryFrame, mkF, argsToLocals, Value.category, maxLocals]; done) | rfl) fun k K => ?_
  have k_0 : (0 : Int32).toInt = 0 := rfl
  have k_1 : (1 : Int32).toInt = 1 := rfl
  have k_128 : (128 : Int32).toInt = 128 := rfl
  have k_16 : (16 : Int32).toInt = 16 := rfl
  have k_2 : (2 : Int32).toInt = 2 := rfl
  have k_2147483647 : (2147483647 : Int32).toInt = 2147483647 := rfl
  have k_3 : (3 : Int32).toInt = 3 := rfl
  have k_32 : (32 : Int32).toInt = 32 := rfl
  have k_4 : (4 : Int32).toInt = 4 := rfl
  have k_5 : (5 : Int32).toInt = 5 := rfl
  have k_6 : (6 : Int32).toInt = 6 := rfl
  have k_64 : (64 : Int32).toInt = 64 := rfl
  have k_7 : (7 : Int32).toInt = 7 := rfl
  have k_8 : (8 : Int32).toInt = 8 := rfl
  have k_9 : (9 : Int32).toInt = 9 := rfl
  refine WP.iloadN K 1 at_0 rfl rfl ?_
  refine WP.ldcI K (v := (2147483647 : Int32)) 3 (hw _ (List.mem_of_getElem? (i := 0) rfl)) at_1 rfl ?_
  refine WP.iand K 4 at_3 rfl ?_
  refine WP.bipush K (9 : Int32) 6 at_4 rfl rfl ?_
  refine WP.irem K 7 at_6 rfl (by decide) ?_
  refine WP.istoreN K 8 [.val (.int p), .val (.int p2), .val (.int ((p &&& (2147483647 : Int32)) % (9 : Int32))), .unset, .unset, .unset, .unset, .unset, .unset, .unset] at_7 rfl rfl ?_
  have a1 := c_and p (2147483647 : Int32) (by decide)
  have a2 := c_iremV (p &&& (2147483647 : Int32)) (9 : Int32)
  generalize e_cc : ((p &&& (2147483647 : Int32)) % (9 : Int32)) = cc at a2 ⊢
  obtain ⟨C, hC⟩ : ∃ C : Nat, cc.toInt = (C : Nat) := ⟨cc.toInt.toNat, by omega⟩
  have hC8 : C ≤ 8 := by omega
  refine WP.iloadN K 9 at_8 rfl rfl ?_
  refine WP.iconst K (1 : Int32) 10 at_9 rfl rfl ?_
  refine WP.iloadN K 11 at_10 rfl rfl ?_
  refine WP.ishl K 12 at_11 rfl ?_
  refine WP.iconst K (1 : Int32) 13 at_12 rfl rfl ?_
  refine WP.isub K 14 at_13 rfl ?_
  refine WP.iand K 15 at_14 rfl ?_
  refine WP.istoreN K 16 [.val (.int p), .val (.int p2), .val (.int cc), .val (.int (p2 &&& (((1 : Int32) <<< (cc &&& 31)) - (1 : Int32)))), .unset, .unset, .unset, .unset, .unset, .unset] at_15 rfl rfl ?_
  generalize e_mm : (p2 &&& (((1 : Int32) <<< (cc &&& 31)) - (1 : Int32))) = mm
  obtain ⟨f, hf⟩ : ∃ f, f = own_bit mm := ⟨_, rfl⟩
  refine WP.bipush K (8 : Int32) 18 at_16 rfl rfl ?_
  refine WP.newarray K 20 8 8 1 8 (hw _ (List.mem_of_getElem? (i := 1) rfl)) at_18 rfl rfl (Nat.le_refl _) (by decide) rfl rfl (by decide) (by decide) (fun h1 da z_da E2 V3 => ?_)
  have n0_da : @LE.le Nat _ n0 da := z_da ▸ Z0
  have Z0 : n0 ≤ (h1).size := Nat.le_trans Z0 E2.1
  have A_da := ArI.of_new V3
  have A_da : ArI Z h1 da [(0 : Int32), (0 : Int32), (0 : Int32), (0 : Int32), (0 : Int32), (0 : Int32), (0 : Int32), (0 : Int32)] := A_da
  refine WP.astore K 22 [.val (.int p), .val (.int p2), .val (.int cc), .val (.int mm), .val (.ref da), .unset, .unset, .unset, .unset, .unset] at_20 rfl rfl rfl ?_
  refine WP.bipush K (8 : Int32) 24 at_22 rfl rfl ?_
  refine WP.newarray K 26 8 8 2 16 (hw _ (List.mem_of_getElem? (i := 1) rfl)) at_24 rfl rfl (Nat.le_refl _) (by decide) rfl rfl (by decide) (by decide) (fun h4 la z_la E5 V6 => ?_)
  have l_da_la : @LT.lt Nat _ da la := z_la ▸ A_da.lt
  have n0_la : @LE.le Nat _ n0 la := z_la ▸ Z0
  have Z0 : n0 ≤ (h4).size := Nat.le_trans Z0 E5.1
  have A_da := A_da.ext E5
  have A_la := ArI.of_new V6
  have A_la : ArI Z h4 la [(0 : Int32), (0 : Int32), (0 : Int32), (0 : Int32), (0 : Int32), (0 : Int32), (0 : Int32), (0 : Int32)] := A_la
  refine WP.astore K 28 [.val (.int p), .val (.int p2), .val (.int cc), .val (.int mm), .val (.ref da), .val (.ref la), .unset, .unset, .unset, .unset] at_26 rfl rfl rfl ?_
  refine WP.iconst K (0 : Int32) 29 at_28 rfl rfl ?_
  refine WP.istore K 31 [.val (.int p), .val (.int p2), .val (.int cc), .val (.int mm), .val (.ref da), .val (.ref la), .val (.int (0 : Int32)), .unset, .unset, .unset] at_29 rfl rfl ?_
  refine WP.iconst K (0 : Int32) 32 at_31 rfl rfl ?_
  refine WP.istore K 34 [.val (.int p), .val (.int p2), .val (.int cc), .val (.int mm), .val (.ref da), .val (.ref la), .val (.int (0 : Int32)), .val (.int (0 : Int32)), .unset, .unset] at_32 rfl rfl ?_
  have J8 : ∀ (hh : Heap) (kd kl : Int32), n0 ≤ hh.size → own_inv Z hh da la f (min 8 C) kd kl → WP k hh 2 16 302 [.val (.int p), .val (.int p2), .val (.int cc), .val (.int mm), .val (.ref da), .val (.ref la), .val (.int kd), .val (.int kl), .unset, .unset] [] := by
    intro hh kd kl Z0 inv
    rw [show min 8 C = C by omega] at inv
    obtain ⟨A_da, A_la, hkd, hkl⟩ := inv
    have bo := own_len_both f C
    obtain ⟨x0, x1, x2, x3, x4, x5, x6, x7, ex⟩ := own_eight (own_ls f C ++ List.replicate (8 - (own_ls f C).length) 0) (by simp only [List.length_append, List.length_replicate]; omega)
    have et : [x0, x1, x2, x3, x4, x5, x6, x7].take (own_ls f C).length = own_ls f C := by rw [← ex]; simp
    rw [ex] at A_da
    refine WP.aload K 304 at_302 rfl rfl rfl ?_
    refine WP.iload K 306 at_304 rfl rfl ?_
    refine WP.callS K 309 3 24 0 [(.ref da), (.int kd)] [] (hw _ (List.mem_of_getElem? (i := 2) rfl)) (hw _ (List.mem_of_getElem? (i := 3) rfl)) (hw _ (List.mem_of_getElem? (i := 4) rfl)) (hw _ (List.mem_of_getElem? (i := 5) rfl)) (by decide) own_pd_0 rfl rfl rfl (by decide) (by decide) (Nat.le_of_eq rfl) rfl at_306 rfl rfl rfl (by decide) (by decide) (own_take l Z a0 hw n0 hh da kd x0 x1 x2 x3 x4 x5 x6 x7 _ Z0 A_da hkd (by omega)) (r1_next fun r9 h7 q8 => ?_)
    obtain ⟨Kt, ta, rfl, n0_ta, sz_ta, A_ta⟩ := q8
    have l_da_ta : @LT.lt Nat _ da ta := Nat.lt_of_lt_of_le (ArV.lt A_da) sz_ta
    have l_la_ta : @LT.lt Nat _ la ta := Nat.lt_of_lt_of_le (ArV.lt A_la) sz_ta
    have Z0 : n0 ≤ (h7).size := Nat.le_trans Z0 Kt.1
    have A_da := A_da.keep Kt (nm0 (by omega))
    have A_la := A_la.keep Kt (nm0 (by omega))
    rw [et] at A_ta
    refine WP.astore K 311 [.val (.int p), .val (.int p2), .val (.int cc), .val (.int mm), .val (.ref da), .val (.ref la), .val (.int kd), .val (.int kl), .val (.ref ta), .unset] at_309 rfl rfl rfl ?_
    refine WP.iloadN K 312 at_311 rfl rfl ?_
    refine WP.aload K 314 at_312 rfl rfl rfl ?_
    refine WP.callS K 317 4 32 0 [(.int cc), (.ref ta)] [] (hw _ (List.mem_of_getElem? (i := 6) rfl)) (hw _ (List.mem_of_getElem? (i := 7) rfl)) (hw _ (List.mem_of_getElem? (i := 8) rfl)) (hw _ (List.mem_of_getElem? (i := 9) rfl)) (by decide) own_pd_1 rfl rfl rfl (by decide) (by decide) (Nat.le_of_eq rfl) rfl at_314 rfl rfl rfl (by decide) (by decide) (own_live l Z a0 hw n0 h7 ta cc f C Z0 A_ta hC hC8) (r1_next fun r12 h10 q11 => ?_)
    obtain ⟨Kl, ra, rfl, n0_ra, sz_ra, A_ra⟩ := q11
    have Z0 : n0 ≤ (h10).size := Nat.le_trans Z0 Kl.1
    have A_da := A_da.keep Kl (nm0 (by omega))
    have A_la := A_la.keep Kl (nm0 (by omega))
    have A_ta := A_ta.keep Kl (nm0 (by omega))
    refine WP.astore K 319 [.val (.int p), .val (.int p2), .val (.int cc), .val (.int mm), .val (.ref da), .val (.ref la), .val (.int kd), .val (.int kl), .val (.ref ta), .val (.ref ra)] at_317 rfl rfl rfl ?_
    refine WP.aload K 321 at_319 rfl rfl rfl ?_
    refine WP.arraylength K kl 322 A_ra (by rw [hkl]; simp) at_321 rfl ?_
    refine WP.iload K 324 at_322 rfl rfl ?_
    refine WP.icmp_eq K 329 327 at_324 (by decide) rfl (fun c324 => ?_) (fun c324 => ?_)
    · skip
      refine WP.aload K 331 at_329 rfl rfl rfl ?_
      refine WP.aload K 333 at_331 rfl rfl rfl ?_
      refine WP.iconst K (0 : Int32) 334 at_333 rfl rfl ?_
      refine WP.callS K 337 4 32 0 [(.ref ra), (.ref la), (.int (0 : Int32))] [] (hw _ (List.mem_of_getElem? (i := 10) rfl)) (hw _ (List.mem_of_getElem? (i := 11) rfl)) (hw _ (List.mem_of_getElem? (i := 4) rfl)) (hw _ (List.mem_of_getElem? (i := 12) rfl)) (by decide) own_pd_2 rfl rfl rfl (by decide) (by decide) (Nat.le_of_eq rfl) rfl at_334 rfl rfl rfl (by decide) (by decide) (own_cmp l Z a0 hw n0 h10 ra la (0 : Int32) _ _ 0 A_ra A_la rfl (fun v hv => by rw [List.getElem?_append_left (List.getElem?_eq_some_iff.mp hv).1]; exact hv)) (r1_next fun r15 h13 q14 => ?_)
      obtain ⟨rfl, rfl⟩ := q14
      refine WP.if_eq K 423 340 at_337 (by decide) rfl (fun c337 => ?_) (fun c337 => ?_)
      · skip
        exact absurd c337 (by decide)
      · skip
        refine WP.aload K 342 at_340 rfl rfl rfl ?_
        refine WP.aload K 344 at_342 rfl rfl rfl ?_
        refine WP.iconst K (1 : Int32) 345 at_344 rfl rfl ?_
        refine WP.callS K 348 4 32 0 [(.ref ra), (.ref la), (.int (1 : Int32))] [] (hw _ (List.mem_of_getElem? (i := 10) rfl)) (hw _ (List.mem_of_getElem? (i := 11) rfl)) (hw _ (List.mem_of_getElem? (i := 4) rfl)) (hw _ (List.mem_of_getElem? (i := 12) rfl)) (by decide) own_pd_2 rfl rfl rfl (by decide) (by decide) (Nat.le_of_eq rfl) rfl at_345 rfl rfl rfl (by decide) (by decide) (own_cmp l Z a0 hw n0 h10 ra la (1 : Int32) _ _ 1 A_ra A_la rfl (fun v hv => by rw [List.getElem?_append_left (List.getElem?_eq_some_iff.mp hv).1]; exact hv)) (r1_next fun r18 h16 q17 => ?_)
        obtain ⟨rfl, rfl⟩ := q17
        refine WP.if_eq K 423 351 at_348 (by decide) rfl (fun c348 => ?_) (fun c348 => ?_)
        · skip
          exact absurd c348 (by decide)
        · skip
          refine WP.aload K 353 at_351 rfl rfl rfl ?_
          refine WP.aload K 355 at_353 rfl rfl rfl ?_
          refine WP.iconst K (2 : Int32) 356 at_355 rfl rfl ?_
          refine WP.callS K 359 4 32 0 [(.ref ra), (.ref la), (.int (2 : Int32))] [] (hw _ (List.mem_of_getElem? (i := 10) rfl)) (hw _ (List.mem_of_getElem? (i := 11) rfl)) (hw _ (List.mem_of_getElem? (i := 4) rfl)) (hw _ (List.mem_of_getElem? (i := 12) rfl)) (by decide) own_pd_2 rfl rfl rfl (by decide) (by decide) (Nat.le_of_eq rfl) rfl at_356 rfl rfl rfl (by decide) (by decide) (own_cmp l Z a0 hw n0 h10 ra la (2 : Int32) _ _ 2 A_ra A_la rfl (fun v hv => by rw [List.getElem?_append_left (List.getElem?_eq_some_iff.mp hv).1]; exact hv)) (r1_next fun r21 h19 q20 => ?_)
          obtain ⟨rfl, rfl⟩ := q20
          refine WP.if_eq K 423 362 at_359 (by decide) rfl (fun c359 => ?_) (fun c359 => ?_)
          · skip
            exact absurd c359 (by decide)
          · skip
            refine WP.aload K 364 at_362 rfl rfl rfl ?_
            refine WP.aload K 366 at_364 rfl rfl rfl ?_
            refine WP.iconst K (3 : Int32) 367 at_366 rfl rfl ?_
            refine WP.callS K 370 4 32 0 [(.ref ra), (.ref la), (.int (3 : Int32))] [] (hw _ (List.mem_of_getElem? (i := 10) rfl)) (hw _ (List.mem_of_getElem? (i := 11) rfl)) (hw _ (List.mem_of_getElem? (i := 4) rfl)) (hw _ (List.mem_of_getElem? (i := 12) rfl)) (by decide) own_pd_2 rfl rfl rfl (by decide) (by decide) (Nat.le_of_eq rfl) rfl at_367 rfl rfl rfl (by decide) (by decide) (own_cmp l Z a0 hw n0 h10 ra la (3 : Int32) _ _ 3 A_ra A_la rfl (fun v hv => by rw [List.getElem?_append_left (List.getElem?_eq_some_iff.mp hv).1]; exact hv)) (r1_next fun r24 h22 q23 => ?_)
            obtain ⟨rfl, rfl⟩ := q23
            refine WP.if_eq K 423 373 at_370 (by decide) rfl (fun c370 => ?_) (fun c370 => ?_)
            · skip
              exact absurd c370 (by decide)
            · skip
              refine WP.aload K 375 at_373 rfl rfl rfl ?_
              refine WP.aload K 377 at_375 rfl rfl rfl ?_
              refine WP.iconst K (4 : Int32) 378 at_377 rfl rfl ?_
              refine WP.callS K 381 4 32 0 [(.ref ra), (.ref la), (.int (4 : Int32))] [] (hw _ (List.mem_of_getElem? (i := 10) rfl)) (hw _ (List.mem_of_getElem? (i := 11) rfl)) (hw _ (List.mem_of_getElem? (i := 4) rfl)) (hw _ (List.mem_of_getElem? (i := 12) rfl)) (by decide) own_pd_2 rfl rfl rfl (by decide) (by decide) (Nat.le_of_eq rfl) rfl at_378 rfl rfl rfl (by decide) (by decide) (own_cmp l Z a0 hw n0 h10 ra la (4 : Int32) _ _ 4 A_ra A_la rfl (fun v hv => by rw [List.getElem?_append_left (List.getElem?_eq_some_iff.mp hv).1]; exact hv)) (r1_next fun r27 h25 q26 => ?_)
              obtain ⟨rfl, rfl⟩ := q26
              refine WP.if_eq K 423 384 at_381 (by decide) rfl (fun c381 => ?_) (fun c381 => ?_)
              · skip
                exact absurd c381 (by decide)
              · skip
                refine WP.aload K 386 at_384 rfl rfl rfl ?_
                refine WP.aload K 388 at_386 rfl rfl rfl ?_
                refine WP.iconst K (5 : Int32) 389 at_388 rfl rfl ?_
                refine WP.callS K 392 4 32 0 [(.ref ra), (.ref la), (.int (5 : Int32))] [] (hw _ (List.mem_of_getElem? (i := 10) rfl)) (hw _ (List.mem_of_getElem? (i := 11) rfl)) (hw _ (List.mem_of_getElem? (i := 4) rfl)) (hw _ (List.mem_of_getElem? (i := 12) rfl)) (by decide) own_pd_2 rfl rfl rfl (by decide) (by decide) (Nat.le_of_eq rfl) rfl at_389 rfl rfl rfl (by decide) (by decide) (own_cmp l Z a0 hw n0 h10 ra la (5 : Int32) _ _ 5 A_ra A_la rfl (fun v hv => by rw [List.getElem?_append_left (List.getElem?_eq_some_iff.mp hv).1]; exact hv)) (r1_next fun r30 h28 q29 => ?_)
                obtain ⟨rfl, rfl⟩ := q29
                refine WP.if_eq K 423 395 at_392 (by decide) rfl (fun c392 => ?_) (fun c392 => ?_)
                · skip
                  exact absurd c392 (by decide)
                · skip
                  refine WP.aload K 397 at_395 rfl rfl rfl ?_
                  refine WP.aload K 399 at_397 rfl rfl rfl ?_
                  refine WP.bipush K (6 : Int32) 401 at_399 rfl rfl ?_
                  refine WP.callS K 404 4 32 0 [(.ref ra), (.ref la), (.int (6 : Int32))] [] (hw _ (List.mem_of_getElem? (i := 10) rfl)) (hw _ (List.mem_of_getElem? (i := 11) rfl)) (hw _ (List.mem_of_getElem? (i := 4) rfl)) (hw _ (List.mem_of_getElem? (i := 12) rfl)) (by decide) own_pd_2 rfl rfl rfl (by decide) (by decide) (Nat.le_of_eq rfl) rfl at_401 rfl rfl rfl (by decide) (by decide) (own_cmp l Z a0 hw n0 h10 ra la (6 : Int32) _ _ 6 A_ra A_la rfl (fun v hv => by rw [List.getElem?_append_left (List.getElem?_eq_some_iff.mp hv).1]; exact hv)) (r1_next fun r33 h31 q32 => ?_)
                  obtain ⟨rfl, rfl⟩ := q32
                  refine WP.if_eq K 423 407 at_404 (by decide) rfl (fun c404 => ?_) (fun c404 => ?_)
                  · skip
                    exact absurd c404 (by decide)
                  · skip
                    refine WP.aload K 409 at_407 rfl rfl rfl ?_
                    refine WP.aload K 411 at_409 rfl rfl rfl ?_
                    refine WP.bipush K (7 : Int32) 413 at_411 rfl rfl ?_
                    refine WP.callS K 416 4 32 0 [(.ref ra), (.ref la), (.int (7 : Int32))] [] (hw _ (List.mem_of_getElem? (i := 10) rfl)) (hw _ (List.mem_of_getElem? (i := 11) rfl)) (hw _ (List.mem_of_getElem? (i := 4) rfl)) (hw _ (List.mem_of_getElem? (i := 12) rfl)) (by decide) own_pd_2 rfl rfl rfl (by decide) (by decide) (Nat.le_of_eq rfl) rfl at_413 rfl rfl rfl (by decide) (by decide) (own_cmp l Z a0 hw n0 h10 ra la (7 : Int32) _ _ 7 A_ra A_la rfl (fun v hv => by rw [List.getElem?_append_left (List.getElem?_eq_some_iff.mp hv).1]; exact hv)) (r1_next fun r36 h34 q35 => ?_)
                    obtain ⟨rfl, rfl⟩ := q35
                    refine WP.if_eq K 423 419 at_416 (by decide) rfl (fun c416 => ?_) (fun c416 => ?_)
                    · skip
                      exact absurd c416 (by decide)
                    · skip
                      refine WP.iconst K (1 : Int32) 420 at_419 rfl rfl ?_
                      refine WP.goto K 424 at_420 (by decide) ?_
                      refine WP.iret K rfl (Or.inr (Or.inl rfl)) rfl at_424 ?_ (by decide) (by decide)
                      exact ⟨_, rfl, rfl⟩
    · skip
      exfalso; omega
  have J7 : ∀ (hh : Heap) (kd kl : Int32), n0 ≤ hh.size → own_inv Z hh da la f (min 7 C) kd kl → WP k hh 2 16 265 [.val (.int p), .val (.int p2), .val (.int cc), .val (.int mm), .val (.ref da), .val (.ref la), .val (.int kd), .val (.int kl), .unset, .unset] [] := by
    intro hh kd kl Z0 inv
    obtain ⟨A_da, A_la, hkd, hkl⟩ := inv
    refine WP.bipush K (7 : Int32) 267 at_265 rfl rfl ?_
    refine WP.iloadN K 268 at_267 rfl rfl ?_
    refine WP.icmp_ge K 302 271 at_268 (by decide) rfl (fun c268 => ?_) (fun c268 => ?_)
    · skip
      exact J8 hh kd kl Z0 ⟨by rw [show (min 8 C) = (min 7 C) by omega]; exact A_da, by rw [show (min 8 C) = (min 7 C) by omega]; exact A_la, by rw [show (min 8 C) = (min 7 C) by omega]; exact hkd, by rw [show (min 8 C) = (min 7 C) by omega]; exact hkl⟩
    · skip
      rw [show min 7 C = 7 by omega] at A_da A_la hkd hkl
      have bo := own_len_both f 7
      refine WP.iloadN K 272 at_271 rfl rfl ?_
      refine WP.sipush K (128 : Int32) 275 at_272 rfl rfl ?_
      refine WP.iand K 276 at_275 rfl ?_
      refine WP.if_eq K 292 279 at_276 (by decide) rfl (fun c276 => ?_) (fun c276 => ?_)
      · skip
        have fb : f 7 = false := by rw [hf]; exact decide_eq_false (fun q => q c276)
        have ly := own_ls_yes (f := fun j => !f j) (n := 7) (by simp [fb])
        have ln := own_ls_no fb
        refine WP.aload K 294 at_292 rfl rfl rfl ?_
        refine WP.iload K 296 at_294 rfl rfl ?_
        refine WP.iinc K (1 : Int32) 299 [.val (.int p), .val (.int p2), .val (.int cc), .val (.int mm), .val (.ref da), .val (.ref la), .val (.int kd), .val (.int (kl + (1 : Int32))), .unset, .unset] at_296 rfl rfl rfl rfl ?_
        refine WP.bipush K (7 : Int32) 301 at_299 rfl rfl ?_
        refine WP.iastore K 302 ((own_ls (fun j => !f j) 7).length) A_la hkl (by simp only [List.length_append, List.length_replicate]; omega) at_301 rfl n0_la (fun h37 K38 A_la => ?_)
        have Z0 : n0 ≤ (h37).size := Nat.le_trans Z0 K38.1
        have A_da := A_da.keep K38 (nm1 (by omega))
        have lyl := congrArg List.length ly
        simp only [List.length_append, List.length_singleton] at lyl
        rw [own_put _ _ _ _ rfl (by omega), show (7 : Int32) = Int32.ofNat 7 from rfl, ← ly, show 8 - (own_ls (fun j => !f j) 7).length - 1 = 8 - (own_ls (fun j => !f j) (7 + 1)).length by omega] at A_la
        rw [← ln] at A_da
        exact J8 _ _ _ Z0 (by rw [show (min 8 C) = 7 + 1 by omega]; exact ⟨A_da, A_la, by rw [ln]; exact hkd, by rw [inc32 hkl (by omega)]; omega⟩)
      · skip
        have fb : f 7 = true := by rw [hf]; exact decide_eq_true c276
        have ly := own_ls_yes fb
        have ln := own_ls_no (f := fun j => !f j) (n := 7) (by simp [fb])
        refine WP.aload K 281 at_279 rfl rfl rfl ?_
        refine WP.iload K 283 at_281 rfl rfl ?_
        refine WP.iinc K (1 : Int32) 286 [.val (.int p), .val (.int p2), .val (.int cc), .val (.int mm), .val (.ref da), .val (.ref la), .val (.int (kd + (1 : Int32))), .val (.int kl), .unset, .unset] at_283 rfl rfl rfl rfl ?_
        refine WP.bipush K (7 : Int32) 288 at_286 rfl rfl ?_
        refine WP.iastore K 289 ((own_ls f 7).length) A_da hkd (by simp only [List.length_append, List.length_replicate]; omega) at_288 rfl n0_da (fun h39 K40 A_da => ?_)
        have Z0 : n0 ≤ (h39).size := Nat.le_trans Z0 K40.1
        have A_la := A_la.keep K40 (nm1 (by omega))
        refine WP.goto K 302 at_289 (by decide) ?_
        have lyl := congrArg List.length ly
        simp only [List.length_append, List.length_singleton] at lyl
        rw [own_put _ _ _ _ rfl (by omega), show (7 : Int32) = Int32.ofNat 7 from rfl, ← ly, show 8 - (own_ls f 7).length - 1 = 8 - (own_ls f (7 + 1)).length by omega] at A_da
        rw [← ln] at A_la
        exact J8 _ _ _ Z0 (by rw [show (min 8 C) = 7 + 1 by omega]; exact ⟨A_da, A_la, by rw [inc32 hkd (by omega)]; omega, by rw [ln]; exact hkl⟩)
  have J6 : ∀ (hh : Heap) (kd kl : Int32), n0 ≤ hh.size → own_inv Z hh da la f (min 6 C) kd kl → WP k hh 2 16 229 [.val (.int p), .val (.int p2), .val (.int cc), .val (.int mm), .val (.ref da), .val (.ref la), .val (.int kd), .val (.int kl), .unset, .unset] [] := by
    intro hh kd kl Z0 inv
    obtain ⟨A_da, A_la, hkd, hkl⟩ := inv
    refine WP.bipush K (6 : Int32) 231 at_229 rfl rfl ?_
    refine WP.iloadN K 232 at_231 rfl rfl ?_
    refine WP.icmp_ge K 265 235 at_232 (by decide) rfl (fun c232 => ?_) (fun c232 => ?_)
    · skip
      exact J7 hh kd kl Z0 ⟨by rw [show (min 7 C) = (min 6 C) by omega]; exact A_da, by rw [show (min 7 C) = (min 6 C) by omega]; exact A_la, by rw [show (min 7 C) = (min 6 C) by omega]; exact hkd, by rw [show (min 7 C) = (min 6 C) by omega]; exact hkl⟩
    · skip
      rw [show min 6 C = 6 by omega] at A_da A_la hkd hkl
      have bo := own_len_both f 6
      refine WP.iloadN K 236 at_235 rfl rfl ?_
      refine WP.bipush K (64 : Int32) 238 at_236 rfl rfl ?_
      refine WP.iand K 239 at_238 rfl ?_
      refine WP.if_eq K 255 242 at_239 (by decide) rfl (fun c239 => ?_) (fun c239 => ?_)
      · skip
        have fb : f 6 = false := by rw [hf]; exact decide_eq_false (fun q => q c239)
        have ly := own_ls_yes (f := fun j => !f j) (n := 6) (by simp [fb])
        have ln := own_ls_no fb
        refine WP.aload K 257 at_255 rfl rfl rfl ?_
        refine WP.iload K 259 at_257 rfl rfl ?_
        refine WP.iinc K (1 : Int32) 262 [.val (.int p), .val (.int p2), .val (.int cc), .val (.int mm), .val (.ref da), .val (.ref la), .val (.int kd), .val (.int (kl + (1 : Int32))), .unset, .unset] at_259 rfl rfl rfl rfl ?_
        refine WP.bipush K (6 : Int32) 264 at_262 rfl rfl ?_
        refine WP.iastore K 265 ((own_ls (fun j => !f j) 6).length) A_la hkl (by simp only [List.length_append, List.length_replicate]; omega) at_264 rfl n0_la (fun h41 K42 A_la => ?_)
        have Z0 : n0 ≤ (h41).size := Nat.le_trans Z0 K42.1
        have A_da := A_da.keep K42 (nm1 (by omega))
        have lyl := congrArg List.length ly
        simp only [List.length_append, List.length_singleton] at lyl
        rw [own_put _ _ _ _ rfl (by omega), show (6 : Int32) = Int32.ofNat 6 from rfl, ← ly, show 8 - (own_ls (fun j => !f j) 6).length - 1 = 8 - (own_ls (fun j => !f j) (6 + 1)).length by omega] at A_la
        rw [← ln] at A_da
        exact J7 _ _ _ Z0 (by rw [show (min 7 C) = 6 + 1 by omega]; exact ⟨A_da, A_la, by rw [ln]; exact hkd, by rw [inc32 hkl (by omega)]; omega⟩)
      · skip
        have fb : f 6 = true := by rw [hf]; exact decide_eq_true c239
        have ly := own_ls_yes fb
        have ln := own_ls_no (f := fun j => !f j) (n := 6) (by simp [fb])
        refine WP.aload K 244 at_242 rfl rfl rfl ?_
        refine WP.iload K 246 at_244 rfl rfl ?_
        refine WP.iinc K (1 : Int32) 249 [.val (.int p), .val (.int p2), .val (.int cc), .val (.int mm), .val (.ref da), .val (.ref la), .val (.int (kd + (1 : Int32))), .val (.int kl), .unset, .unset] at_246 rfl rfl rfl rfl ?_
        refine WP.bipush K (6 : Int32) 251 at_249 rfl rfl ?_
        refine WP.iastore K 252 ((own_ls f 6).length) A_da hkd (by simp only [List.length_append, List.length_replicate]; omega) at_251 rfl n0_da (fun h43 K44 A_da => ?_)
        have Z0 : n0 ≤ (h43).size := Nat.le_trans Z0 K44.1
        have A_la := A_la.keep K44 (nm1 (by omega))
        refine WP.goto K 265 at_252 (by decide) ?_
        have lyl := congrArg List.length ly
        simp only [List.length_append, List.length_singleton] at lyl
        rw [own_put _ _ _ _ rfl (by omega), show (6 : Int32) = Int32.ofNat 6 from rfl, ← ly, show 8 - (own_ls f 6).length - 1 = 8 - (own_ls f (6 + 1)).length by omega] at A_da
        rw [← ln] at A_la
        exact J7 _ _ _ Z0 (by rw [show (min 7 C) = 6 + 1 by omega]; exact ⟨A_da, A_la, by rw [inc32 hkd (by omega)]; omega, by rw [ln]; exact hkl⟩)
  have J5 : ∀ (hh : Heap) (kd kl : Int32), n0 ≤ hh.size → own_inv Z hh da la f (min 5 C) kd kl → WP k hh 2 16 196 [.val (.int p), .val (.int p2), .val (.int cc), .val (.int mm), .val (.ref da), .val (.ref la), .val (.int kd), .val (.int kl), .unset, .unset] [] := by
    intro hh kd kl Z0 inv
    obtain ⟨A_da, A_la, hkd, hkl⟩ := inv
    refine WP.iconst K (5 : Int32) 197 at_196 rfl rfl ?_
    refine WP.iloadN K 198 at_197 rfl rfl ?_
    refine WP.icmp_ge K 229 201 at_198 (by decide) rfl (fun c198 => ?_) (fun c198 => ?_)
    · skip
      exact J6 hh kd kl Z0 ⟨by rw [show (min 6 C) = (min 5 C) by omega]; exact A_da, by rw [show (min 6 C) = (min 5 C) by omega]; exact A_la, by rw [show (min 6 C) = (min 5 C) by omega]; exact hkd, by rw [show (min 6 C) = (min 5 C) by omega]; exact hkl⟩
    · skip
      rw [show min 5 C = 5 by omega] at A_da A_la hkd hkl
      have bo := own_len_both f 5
      refine WP.iloadN K 202 at_201 rfl rfl ?_
      refine WP.bipush K (32 : Int32) 204 at_202 rfl rfl ?_
      refine WP.iand K 205 at_204 rfl ?_
      refine WP.if_eq K 220 208 at_205 (by decide) rfl (fun c205 => ?_) (fun c205 => ?_)
      · skip
        have fb : f 5 = false := by rw [hf]; exact decide_eq_false (fun q => q c205)
        have ly := own_ls_yes (f := fun j => !f j) (n := 5) (by simp [fb])
        have ln := own_ls_no fb
        refine WP.aload K 222 at_220 rfl rfl rfl ?_
        refine WP.iload K 224 at_222 rfl rfl ?_
        refine WP.iinc K (1 : Int32) 227 [.val (.int p), .val (.int p2), .val (.int cc), .val (.int mm), .val (.ref da), .val (.ref la), .val (.int kd), .val (.int (kl + (1 : Int32))), .unset, .unset] at_224 rfl rfl rfl rfl ?_
        refine WP.iconst K (5 : Int32) 228 at_227 rfl rfl ?_
        refine WP.iastore K 229 ((own_ls (fun j => !f j) 5).length) A_la hkl (by simp only [List.length_append, List.length_replicate]; omega) at_228 rfl n0_la (fun h45 K46 A_la => ?_)
        have Z0 : n0 ≤ (h45).size := Nat.le_trans Z0 K46.1
        have A_da := A_da.keep K46 (nm1 (by omega))
        have lyl := congrArg List.length ly
        simp only [List.length_append, List.length_singleton] at lyl
        rw [own_put _ _ _ _ rfl (by omega), show (5 : Int32) = Int32.ofNat 5 from rfl, ← ly, show 8 - (own_ls (fun j => !f j) 5).length - 1 = 8 - (own_ls (fun j => !f j) (5 + 1)).length by omega] at A_la
        rw [← ln] at A_da
        exact J6 _ _ _ Z0 (by rw [show (min 6 C) = 5 + 1 by omega]; exact ⟨A_da, A_la, by rw [ln]; exact hkd, by rw [inc32 hkl (by omega)]; omega⟩)
      · skip
        have fb : f 5 = true := by rw [hf]; exact decide_eq_true c205
        have ly := own_ls_yes fb
        have ln := own_ls_no (f := fun j => !f j) (n := 5) (by simp [fb])
        refine WP.aload K 210 at_208 rfl rfl rfl ?_
        refine WP.iload K 212 at_210 rfl rfl ?_
        refine WP.iinc K (1 : Int32) 215 [.val (.int p), .val (.int p2), .val (.int cc), .val (.int mm), .val (.ref da), .val (.ref la), .val (.int (kd + (1 : Int32))), .val (.int kl), .unset, .unset] at_212 rfl rfl rfl rfl ?_
        refine WP.iconst K (5 : Int32) 216 at_215 rfl rfl ?_
        refine WP.iastore K 217 ((own_ls f 5).length) A_da hkd (by simp only [List.length_append, List.length_replicate]; omega) at_216 rfl n0_da (fun h47 K48 A_da => ?_)
        have Z0 : n0 ≤ (h47).size := Nat.le_trans Z0 K48.1
        have A_la := A_la.keep K48 (nm1 (by omega))
        refine WP.goto K 229 at_217 (by decide) ?_
        have lyl := congrArg List.length ly
        simp only [List.length_append, List.length_singleton] at lyl
        rw [own_put _ _ _ _ rfl (by omega), show (5 : Int32) = Int32.ofNat 5 from rfl, ← ly, show 8 - (own_ls f 5).length - 1 = 8 - (own_ls f (5 + 1)).length by omega] at A_da
        rw [← ln] at A_la
        exact J6 _ _ _ Z0 (by rw [show (min 6 C) = 5 + 1 by omega]; exact ⟨A_da, A_la, by rw [inc32 hkd (by omega)]; omega, by rw [ln]; exact hkl⟩)
  have J4 : ∀ (hh : Heap) (kd kl : Int32), n0 ≤ hh.size → own_inv Z hh da la f (min 4 C) kd kl → WP k hh 2 16 163 [.val (.int p), .val (.int p2), .val (.int cc), .val (.int mm), .val (.ref da), .val (.ref la), .val (.int kd), .val (.int kl), .unset, .unset] [] := by
    intro hh kd kl Z0 inv
    obtain ⟨A_da, A_la, hkd, hkl⟩ := inv
    refine WP.iconst K (4 : Int32) 164 at_163 rfl rfl ?_
    refine WP.iloadN K 165 at_164 rfl rfl ?_
    refine WP.icmp_ge K 196 168 at_165 (by decide) rfl (fun c165 => ?_) (fun c165 => ?_)
    · skip
      exact J5 hh kd kl Z0 ⟨by rw [show (min 5 C) = (min 4 C) by omega]; exact A_da, by rw [show (min 5 C) = (min 4 C) by omega]; exact A_la, by rw [show (min 5 C) = (min 4 C) by omega]; exact hkd, by rw [show (min 5 C) = (min 4 C) by omega]; exact hkl⟩
    · skip
      rw [show min 4 C = 4 by omega] at A_da A_la hkd hkl
      have bo := own_len_both f 4
      refine WP.iloadN K 169 at_168 rfl rfl ?_
      refine WP.bipush K (16 : Int32) 171 at_169 rfl rfl ?_
      refine WP.iand K 172 at_171 rfl ?_
      refine WP.if_eq K 187 175 at_172 (by decide) rfl (fun c172 => ?_) (fun c172 => ?_)
      · skip
        have fb : f 4 = false := by rw [hf]; exact decide_eq_false (fun q => q c172)
        have ly := own_ls_yes (f := fun j => !f j) (n := 4) (by simp [fb])
        have ln := own_ls_no fb
        refine WP.aload K 189 at_187 rfl rfl rfl ?_
        refine WP.iload K 191 at_189 rfl rfl ?_
        refine WP.iinc K (1 : Int32) 194 [.val (.int p), .val (.int p2), .val (.int cc), .val (.int mm), .val (.ref da), .val (.ref la), .val (.int kd), .val (.int (kl + (1 : Int32))), .unset, .unset] at_191 rfl rfl rfl rfl ?_
        refine WP.iconst K (4 : Int32) 195 at_194 rfl rfl ?_
        refine WP.iastore K 196 ((own_ls (fun j => !f j) 4).length) A_la hkl (by simp only [List.length_append, List.length_replicate]; omega) at_195 rfl n0_la (fun h49 K50 A_la => ?_)
        have Z0 : n0 ≤ (h49).size := Nat.le_trans Z0 K50.1
        have A_da := A_da.keep K50 (nm1 (by omega))
        have lyl := congrArg List.length ly
        simp only [List.length_append, List.length_singleton] at lyl
        rw [own_put _ _ _ _ rfl (by omega), show (4 : Int32) = Int32.ofNat 4 from rfl, ← ly, show 8 - (own_ls (fun j => !f j) 4).length - 1 = 8 - (own_ls (fun j => !f j) (4 + 1)).length by omega] at A_la
        rw [← ln] at A_da
        exact J5 _ _ _ Z0 (by rw [show (min 5 C) = 4 + 1 by omega]; exact ⟨A_da, A_la, by rw [ln]; exact hkd, by rw [inc32 hkl (by omega)]; omega⟩)
      · skip
        have fb : f 4 = true := by rw [hf]; exact decide_eq_true c172
        have ly := own_ls_yes fb
        have ln := own_ls_no (f := fun j => !f j) (n := 4) (by simp [fb])
        refine WP.aload K 177 at_175 rfl rfl rfl ?_
        refine WP.iload K 179 at_177 rfl rfl ?_
        refine WP.iinc K (1 : Int32) 182 [.val (.int p), .val (.int p2), .val (.int cc), .val (.int mm), .val (.ref da), .val (.ref la), .val (.int (kd + (1 : Int32))), .val (.int kl), .unset, .unset] at_179 rfl rfl rfl rfl ?_
        refine WP.iconst K (4 : Int32) 183 at_182 rfl rfl ?_
        refine WP.iastore K 184 ((own_ls f 4).length) A_da hkd (by simp only [List.length_append, List.length_replicate]; omega) at_183 rfl n0_da (fun h51 K52 A_da => ?_)
        have Z0 : n0 ≤ (h51).size := Nat.le_trans Z0 K52.1
        have A_la := A_la.keep K52 (nm1 (by omega))
        refine WP.goto K 196 at_184 (by decide) ?_
        have lyl := congrArg List.length ly
        simp only [List.length_append, List.length_singleton] at lyl
        rw [own_put _ _ _ _ rfl (by omega), show (4 : Int32) = Int32.ofNat 4 from rfl, ← ly, show 8 - (own_ls f 4).length - 1 = 8 - (own_ls f (4 + 1)).length by omega] at A_da
        rw [← ln] at A_la
        exact J5 _ _ _ Z0 (by rw [show (min 5 C) = 4 + 1 by omega]; exact ⟨A_da, A_la, by rw [inc32 hkd (by omega)]; omega, by rw [ln]; exact hkl⟩)
  have J3 : ∀ (hh : Heap) (kd kl : Int32), n0 ≤ hh.size → own_inv Z hh da la f (min 3 C) kd kl → WP k hh 2 16 130 [.val (.int p), .val (.int p2), .val (.int cc), .val (.int mm), .val (.ref da), .val (.ref la), .val (.int kd), .val (.int kl), .unset, .unset] [] := by
    intro hh kd kl Z0 inv
    obtain ⟨A_da, A_la, hkd, hkl⟩ := inv
    refine WP.iconst K (3 : Int32) 131 at_130 rfl rfl ?_
    refine WP.iloadN K 132 at_131 rfl rfl ?_
    refine WP.icmp_ge K 163 135 at_132 (by decide) rfl (fun c132 => ?_) (fun c132 => ?_)
    · skip
      exact J4 hh kd kl Z0 ⟨by rw [show (min 4 C) = (min 3 C) by omega]; exact A_da, by rw [show (min 4 C) = (min 3 C) by omega]; exact A_la, by rw [show (min 4 C) = (min 3 C) by omega]; exact hkd, by rw [show (min 4 C) = (min 3 C) by omega]; exact hkl⟩
    · skip
      rw [show min 3 C = 3 by omega] at A_da A_la hkd hkl
      have bo := own_len_both f 3
      refine WP.iloadN K 136 at_135 rfl rfl ?_
      refine WP.bipush K (8 : Int32) 138 at_136 rfl rfl ?_
      refine WP.iand K 139 at_138 rfl ?_
      refine WP.if_eq K 154 142 at_139 (by decide) rfl (fun c139 => ?_) (fun c139 => ?_)
      · skip
        have fb : f 3 = false := by rw [hf]; exact decide_eq_false (fun q => q c139)
        have ly := own_ls_yes (f := fun j => !f j) (n := 3) (by simp [fb])
        have ln := own_ls_no fb
        refine WP.aload K 156 at_154 rfl rfl rfl ?_
        refine WP.iload K 158 at_156 rfl rfl ?_
        refine WP.iinc K (1 : Int32) 161 [.val (.int p), .val (.int p2), .val (.int cc), .val (.int mm), .val (.ref da), .val (.ref la), .val (.int kd), .val (.int (kl + (1 : Int32))), .unset, .unset] at_158 rfl rfl rfl rfl ?_
        refine WP.iconst K (3 : Int32) 162 at_161 rfl rfl ?_
        refine WP.iastore K 163 ((own_ls (fun j => !f j) 3).length) A_la hkl (by simp only [List.length_append, List.length_replicate]; omega) at_162 rfl n0_la (fun h53 K54 A_la => ?_)
        have Z0 : n0 ≤ (h53).size := Nat.le_trans Z0 K54.1
        have A_da := A_da.keep K54 (nm1 (by omega))
        have lyl := congrArg List.length ly
        simp only [List.length_append, List.length_singleton] at lyl
        rw [own_put _ _ _ _ rfl (by omega), show (3 : Int32) = Int32.ofNat 3 from rfl, ← ly, show 8 - (own_ls (fun j => !f j) 3).length - 1 = 8 - (own_ls (fun j => !f j) (3 + 1)).length by omega] at A_la
        rw [← ln] at A_da
        exact J4 _ _ _ Z0 (by rw [show (min 4 C) = 3 + 1 by omega]; exact ⟨A_da, A_la, by rw [ln]; exact hkd, by rw [inc32 hkl (by omega)]; omega⟩)
      · skip
        have fb : f 3 = true := by rw [hf]; exact decide_eq_true c139
        have ly := own_ls_yes fb
        have ln := own_ls_no (f := fun j => !f j) (n := 3) (by simp [fb])
        refine WP.aload K 144 at_142 rfl rfl rfl ?_
        refine WP.iload K 146 at_144 rfl rfl ?_
        refine WP.iinc K (1 : Int32) 149 [.val (.int p), .val (.int p2), .val (.int cc), .val (.int mm), .val (.ref da), .val (.ref la), .val (.int (kd + (1 : Int32))), .val (.int kl), .unset, .unset] at_146 rfl rfl rfl rfl ?_
        refine WP.iconst K (3 : Int32) 150 at_149 rfl rfl ?_
        refine WP.iastore K 151 ((own_ls f 3).length) A_da hkd (by simp only [List.length_append, List.length_replicate]; omega) at_150 rfl n0_da (fun h55 K56 A_da => ?_)
        have Z0 : n0 ≤ (h55).size := Nat.le_trans Z0 K56.1
        have A_la := A_la.keep K56 (nm1 (by omega))
        refine WP.goto K 163 at_151 (by decide) ?_
        have lyl := congrArg List.length ly
        simp only [List.length_append, List.length_singleton] at lyl
        rw [own_put _ _ _ _ rfl (by omega), show (3 : Int32) = Int32.ofNat 3 from rfl, ← ly, show 8 - (own_ls f 3).length - 1 = 8 - (own_ls f (3 + 1)).length by omega] at A_da
        rw [← ln] at A_la
        exact J4 _ _ _ Z0 (by rw [show (min 4 C) = 3 + 1 by omega]; exact ⟨A_da, A_la, by rw [inc32 hkd (by omega)]; omega, by rw [ln]; exact hkl⟩)
  have J2 : ∀ (hh : Heap) (kd kl : Int32), n0 ≤ hh.size → own_inv Z hh da la f (min 2 C) kd kl → WP k hh 2 16 98 [.val (.int p), .val (.int p2), .val (.int cc), .val (.int mm), .val (.ref da), .val (.ref la), .val (.int kd), .val (.int kl), .unset, .unset] [] := by
    intro hh kd kl Z0 inv
    obtain ⟨A_da, A_la, hkd, hkl⟩ := inv
    refine WP.iconst K (2 : Int32) 99 at_98 rfl rfl ?_
    refine WP.iloadN K 100 at_99 rfl rfl ?_
    refine WP.icmp_ge K 130 103 at_100 (by decide) rfl (fun c100 => ?_) (fun c100 => ?_)
    · skip
      exact J3 hh kd kl Z0 ⟨by rw [show (min 3 C) = (min 2 C) by omega]; exact A_da, by rw [show (min 3 C) = (min 2 C) by omega]; exact A_la, by rw [show (min 3 C) = (min 2 C) by omega]; exact hkd, by rw [show (min 3 C) = (min 2 C) by omega]; exact hkl⟩
    · skip
      rw [show min 2 C = 2 by omega] at A_da A_la hkd hkl
      have bo := own_len_both f 2
      refine WP.iloadN K 104 at_103 rfl rfl ?_
      refine WP.iconst K (4 : Int32) 105 at_104 rfl rfl ?_
      refine WP.iand K 106 at_105 rfl ?_
      refine WP.if_eq K 121 109 at_106 (by decide) rfl (fun c106 => ?_) (fun c106 => ?_)
      · skip
        have fb : f 2 = false := by rw [hf]; exact decide_eq_false (fun q => q c106)
        have ly := own_ls_yes (f := fun j => !f j) (n := 2) (by simp [fb])
        have ln := own_ls_no fb
        refine WP.aload K 123 at_121 rfl rfl rfl ?_
        refine WP.iload K 125 at_123 rfl rfl ?_
        refine WP.iinc K (1 : Int32) 128 [.val (.int p), .val (.int p2), .val (.int cc), .val (.int mm), .val (.ref da), .val (.ref la), .val (.int kd), .val (.int (kl + (1 : Int32))), .unset, .unset] at_125 rfl rfl rfl rfl ?_
        refine WP.iconst K (2 : Int32) 129 at_128 rfl rfl ?_
        refine WP.iastore K 130 ((own_ls (fun j => !f j) 2).length) A_la hkl (by simp only [List.length_append, List.length_replicate]; omega) at_129 rfl n0_la (fun h57 K58 A_la => ?_)
        have Z0 : n0 ≤ (h57).size := Nat.le_trans Z0 K58.1
        have A_da := A_da.keep K58 (nm1 (by omega))
        have lyl := congrArg List.length ly
        simp only [List.length_append, List.length_singleton] at lyl
        rw [own_put _ _ _ _ rfl (by omega), show (2 : Int32) = Int32.ofNat 2 from rfl, ← ly, show 8 - (own_ls (fun j => !f j) 2).length - 1 = 8 - (own_ls (fun j => !f j) (2 + 1)).length by omega] at A_la
        rw [← ln] at A_da
        exact J3 _ _ _ Z0 (by rw [show (min 3 C) = 2 + 1 by omega]; exact ⟨A_da, A_la, by rw [ln]; exact hkd, by rw [inc32 hkl (by omega)]; omega⟩)
      · skip
        have fb : f 2 = true := by rw [hf]; exact decide_eq_true c106
        have ly := own_ls_yes fb
        have ln := own_ls_no (f := fun j => !f j) (n := 2) (by simp [fb])
        refine WP.aload K 111 at_109 rfl rfl rfl ?_
        refine WP.iload K 113 at_111 rfl rfl ?_
        refine WP.iinc K (1 : Int32) 116 [.val (.int p), .val (.int p2), .val (.int cc), .val (.int mm), .val (.ref da), .val (.ref la), .val (.int (kd + (1 : Int32))), .val (.int kl), .unset, .unset] at_113 rfl rfl rfl rfl ?_
        refine WP.iconst K (2 : Int32) 117 at_116 rfl rfl ?_
        refine WP.iastore K 118 ((own_ls f 2).length) A_da hkd (by simp only [List.length_append, List.length_replicate]; omega) at_117 rfl n0_da (fun h59 K60 A_da => ?_)
        have Z0 : n0 ≤ (h59).size := Nat.le_trans Z0 K60.1
        have A_la := A_la.keep K60 (nm1 (by omega))
        refine WP.goto K 130 at_118 (by decide) ?_
        have lyl := congrArg List.length ly
        simp only [List.length_append, List.length_singleton] at lyl
        rw [own_put _ _ _ _ rfl (by omega), show (2 : Int32) = Int32.ofNat 2 from rfl, ← ly, show 8 - (own_ls f 2).length - 1 = 8 - (own_ls f (2 + 1)).length by omega] at A_da
        rw [← ln] at A_la
        exact J3 _ _ _ Z0 (by rw [show (min 3 C) = 2 + 1 by omega]; exact ⟨A_da, A_la, by rw [inc32 hkd (by omega)]; omega, by rw [ln]; exact hkl⟩)
  have J1 : ∀ (hh : Heap) (kd kl : Int32), n0 ≤ hh.size → own_inv Z hh da la f (min 1 C) kd kl → WP k hh 2 16 66 [.val (.int p), .val (.int p2), .val (.int cc), .val (.int mm), .val (.ref da), .val (.ref la), .val (.int kd), .val (.int kl), .unset, .unset] [] := by
    intro hh kd kl Z0 inv
    obtain ⟨A_da, A_la, hkd, hkl⟩ := inv
    refine WP.iconst K (1 : Int32) 67 at_66 rfl rfl ?_
    refine WP.iloadN K 68 at_67 rfl rfl ?_
    refine WP.icmp_ge K 98 71 at_68 (by decide) rfl (fun c68 => ?_) (fun c68 => ?_)
    · skip
      exact J2 hh kd kl Z0 ⟨by rw [show (min 2 C) = (min 1 C) by omega]; exact A_da, by rw [show (min 2 C) = (min 1 C) by omega]; exact A_la, by rw [show (min 2 C) = (min 1 C) by omega]; exact hkd, by rw [show (min 2 C) = (min 1 C) by omega]; exact hkl⟩
    · skip
      rw [show min 1 C = 1 by omega] at A_da A_la hkd hkl
      have bo := own_len_both f 1
      refine WP.iloadN K 72 at_71 rfl rfl ?_
      refine WP.iconst K (2 : Int32) 73 at_72 rfl rfl ?_
      refine WP.iand K 74 at_73 rfl ?_
      refine WP.if_eq K 89 77 at_74 (by decide) rfl (fun c74 => ?_) (fun c74 => ?_)
      · skip
        have fb : f 1 = false := by rw [hf]; exact decide_eq_false (fun q => q c74)
        have ly := own_ls_yes (f := fun j => !f j) (n := 1) (by simp [fb])
        have ln := own_ls_no fb
        refine WP.aload K 91 at_89 rfl rfl rfl ?_
        refine WP.iload K 93 at_91 rfl rfl ?_
        refine WP.iinc K (1 : Int32) 96 [.val (.int p), .val (.int p2), .val (.int cc), .val (.int mm), .val (.ref da), .val (.ref la), .val (.int kd), .val (.int (kl + (1 : Int32))), .unset, .unset] at_93 rfl rfl rfl rfl ?_
        refine WP.iconst K (1 : Int32) 97 at_96 rfl rfl ?_
        refine WP.iastore K 98 ((own_ls (fun j => !f j) 1).length) A_la hkl (by simp only [List.length_append, List.length_replicate]; omega) at_97 rfl n0_la (fun h61 K62 A_la => ?_)
        have Z0 : n0 ≤ (h61).size := Nat.le_trans Z0 K62.1
        have A_da := A_da.keep K62 (nm1 (by omega))
        have lyl := congrArg List.length ly
        simp only [List.length_append, List.length_singleton] at lyl
        rw [own_put _ _ _ _ rfl (by omega), show (1 : Int32) = Int32.ofNat 1 from rfl, ← ly, show 8 - (own_ls (fun j => !f j) 1).length - 1 = 8 - (own_ls (fun j => !f j) (1 + 1)).length by omega] at A_la
        rw [← ln] at A_da
        exact J2 _ _ _ Z0 (by rw [show (min 2 C) = 1 + 1 by omega]; exact ⟨A_da, A_la, by rw [ln]; exact hkd, by rw [inc32 hkl (by omega)]; omega⟩)
      · skip
        have fb : f 1 = true := by rw [hf]; exact decide_eq_true c74
        have ly := own_ls_yes fb
        have ln := own_ls_no (f := fun j => !f j) (n := 1) (by simp [fb])
        refine WP.aload K 79 at_77 rfl rfl rfl ?_
        refine WP.iload K 81 at_79 rfl rfl ?_
        refine WP.iinc K (1 : Int32) 84 [.val (.int p), .val (.int p2), .val (.int cc), .val (.int mm), .val (.ref da), .val (.ref la), .val (.int (kd + (1 : Int32))), .val (.int kl), .unset, .unset] at_81 rfl rfl rfl rfl ?_
        refine WP.iconst K (1 : Int32) 85 at_84 rfl rfl ?_
        refine WP.iastore K 86 ((own_ls f 1).length) A_da hkd (by simp only [List.length_append, List.length_replicate]; omega) at_85 rfl n0_da (fun h63 K64 A_da => ?_)
        have Z0 : n0 ≤ (h63).size := Nat.le_trans Z0 K64.1
        have A_la := A_la.keep K64 (nm1 (by omega))
        refine WP.goto K 98 at_86 (by decide) ?_
        have lyl := congrArg List.length ly
        simp only [List.length_append, List.length_singleton] at lyl
        rw [own_put _ _ _ _ rfl (by omega), show (1 : Int32) = Int32.ofNat 1 from rfl, ← ly, show 8 - (own_ls f 1).length - 1 = 8 - (own_ls f (1 + 1)).length by omega] at A_da
        rw [← ln] at A_la
        exact J2 _ _ _ Z0 (by rw [show (min 2 C) = 1 + 1 by omega]; exact ⟨A_da, A_la, by rw [inc32 hkd (by omega)]; omega, by rw [ln]; exact hkl⟩)
  have J0 : ∀ (hh : Heap) (kd kl : Int32), n0 ≤ hh.size → own_inv Z hh da la f (min 0 C) kd kl → WP k hh 2 16 34 [.val (.int p), .val (.int p2), .val (.int cc), .val (.int mm), .val (.ref da), .val (.ref la), .val (.int kd), .val (.int kl), .unset, .unset] [] := by
    intro hh kd kl Z0 inv
    obtain ⟨A_da, A_la, hkd, hkl⟩ := inv
    refine WP.iconst K (0 : Int32) 35 at_34 rfl rfl ?_
    refine WP.iloadN K 36 at_35 rfl rfl ?_
    refine WP.icmp_ge K 66 39 at_36 (by decide) rfl (fun c36 => ?_) (fun c36 => ?_)
    · skip
      exact J1 hh kd kl Z0 ⟨by rw [show (min 1 C) = (min 0 C) by omega]; exact A_da, by rw [show (min 1 C) = (min 0 C) by omega]; exact A_la, by rw [show (min 1 C) = (min 0 C) by omega]; exact hkd, by rw [show (min 1 C) = (min 0 C) by omega]; exact hkl⟩
    · skip
      rw [show min 0 C = 0 by omega] at A_da A_la hkd hkl
      have bo := own_len_both f 0
      refine WP.iloadN K 40 at_39 rfl rfl ?_
      refine WP.iconst K (1 : Int32) 41 at_40 rfl rfl ?_
      refine WP.iand K 42 at_41 rfl ?_
      refine WP.if_eq K 57 45 at_42 (by decide) rfl (fun c42 => ?_) (fun c42 => ?_)
      · skip
        have fb : f 0 = false := by rw [hf]; exact decide_eq_false (fun q => q c42)
        have ly := own_ls_yes (f := fun j => !f j) (n := 0) (by simp [fb])
        have ln := own_ls_no fb
        refine WP.aload K 59 at_57 rfl rfl rfl ?_
        refine WP.iload K 61 at_59 rfl rfl ?_
        refine WP.iinc K (1 : Int32) 64 [.val (.int p), .val (.int p2), .val (.int cc), .val (.int mm), .val (.ref da), .val (.ref la), .val (.int kd), .val (.int (kl + (1 : Int32))), .unset, .unset] at_61 rfl rfl rfl rfl ?_
        refine WP.iconst K (0 : Int32) 65 at_64 rfl rfl ?_
        refine WP.iastore K 66 ((own_ls (fun j => !f j) 0).length) A_la hkl (by simp only [List.length_append, List.length_replicate]; omega) at_65 rfl n0_la (fun h65 K66 A_la => ?_)
        have Z0 : n0 ≤ (h65).size := Nat.le_trans Z0 K66.1
        have A_da := A_da.keep K66 (nm1 (by omega))
        have lyl := congrArg List.length ly
        simp only [List.length_append, List.length_singleton] at lyl
        rw [own_put _ _ _ _ rfl (by omega), show (0 : Int32) = Int32.ofNat 0 from rfl, ← ly, show 8 - (own_ls (fun j => !f j) 0).length - 1 = 8 - (own_ls (fun j => !f j) (0 + 1)).length by omega] at A_la
        rw [← ln] at A_da
        exact J1 _ _ _ Z0 (by rw [show (min 1 C) = 0 + 1 by omega]; exact ⟨A_da, A_la, by rw [ln]; exact hkd, by rw [inc32 hkl (by omega)]; omega⟩)
      · skip
        have fb : f 0 = true := by rw [hf]; exact decide_eq_true c42
        have ly := own_ls_yes fb
        have ln := own_ls_no (f := fun j => !f j) (n := 0) (by simp [fb])
        refine WP.aload K 47 at_45 rfl rfl rfl ?_
        refine WP.iload K 49 at_47 rfl rfl ?_
        refine WP.iinc K (1 : Int32) 52 [.val (.int p), .val (.int p2), .val (.int cc), .val (.int mm), .val (.ref da), .val (.ref la), .val (.int (kd + (1 : Int32))), .val (.int kl), .unset, .unset] at_49 rfl rfl rfl rfl ?_
        refine WP.iconst K (0 : Int32) 53 at_52 rfl rfl ?_
        refine WP.iastore K 54 ((own_ls f 0).length) A_da hkd (by simp only [List.length_append, List.length_replicate]; omega) at_53 rfl n0_da (fun h67 K68 A_da => ?_)
        have Z0 : n0 ≤ (h67).size := Nat.le_trans Z0 K68.1
        have A_la := A_la.keep K68 (nm1 (by omega))
        refine WP.goto K 66 at_54 (by decide) ?_
        have lyl := congrArg List.length ly
        simp only [List.length_append, List.length_singleton] at lyl
        rw [own_put _ _ _ _ rfl (by omega), show (0 : Int32) = Int32.ofNat 0 from rfl, ← ly, show 8 - (own_ls f 0).length - 1 = 8 - (own_ls f (0 + 1)).length by omega] at A_da
        rw [← ln] at A_la
        exact J1 _ _ _ Z0 (by rw [show (min 1 C) = 0 + 1 by omega]; exact ⟨A_da, A_la, by rw [inc32 hkd (by omega)]; omega, by rw [ln]; exact hkl⟩)
  exact J0 _ _ _ Z0 (by rw [Nat.zero_min]; exact ⟨A_da, A_la, rfl, rfl⟩)
set_option maxRecDepth 65536 in
set_option maxHeartbeats 40000000 in
theorem comes_1 {Post : Tables → Env → Array Value → State → Outcome → State → Prop} (hpost : ∀ tb e args s v u, (limb_1_1.after args s (.returned v) u = true ∧ limb_1_2.after args s (.returned v) u = true ∧ True) → FrameEnd s (.returned v) u (Jvm.fieldLocs frame_1_writes args s ++ Jvm.arrayLocs frame_1_arrays args s ++ Jvm.staticLocs frame_1_statics s) 16 128 → Post tb e args s (.returned v) u) :
    ArmFor flags0 classFile x code maxLocals ret World_1 tables_1 room_1 Calls_1 rest_1 Pre_1 Post := by
  intro l hfl _ _ p e ha hc hk s m args below hf hA hF happ hP
  obtain ⟨hcalls, hrest, hpre⟩ := hP
  obtain ⟨-, -, -, hnamed, -, -, -, hat⟩ := (Spec.applies_iff hf).mp happ
  obtain ⟨hg, hn⟩ := and_e (Cond.before_iff.mp (show (Jvm.Cond.and given_1 narrow_1).before args s = true from hpre))
  obtain ⟨g0, g1⟩ := and_e hg
  obtain ⟨w0, w1, rfl⟩ : ∃ w0 w1 : Value, args = #[w0, w1] := by
    have hs : args.size = 2 := by simpa [Cond.value, given_1] using g0
    obtain ⟨L⟩ := args
    match L, hs with
    | [w0, w1], _ => exact ⟨w0, w1, rfl⟩
  have hw := fun d (hd : d ∈ tables_1) => atoms_spec (ws := Jvm.Cond.code x code maxLocals ret :: tables_1) hat d (List.mem_cons_of_mem _ hd)
  have hfit : Fit s := fun {y c} hc i hi => by
    obtain ⟨ha, rfl⟩ := Array.getElem?_eq_some_iff.mp hc
    have q := List.all_eq_true.mp ((Array.all_eq_true_iff_forall_mem.mp hF) _ (Array.getElem_mem ha)) i (List.mem_range.mpr hi)
    simpa [Array.getElem?_eq_getElem hi] using q
  obtain ⟨u0, g2⟩ := and_e g1
  obtain ⟨i0, ei0⟩ := is_v u0
  obtain rfl : w0 = (.int i0) := Option.some.inj ei0
  obtain ⟨i1, ei1⟩ := is_v g2
  obtain rfl : w1 = (.int i1) := Option.some.inj ei1
  obtain ⟨n, o, h1, h2, h3, _, L, rfl, ⟨⟨_, rfl, rfl⟩, N⟩, hq⟩ := own_law l s _ hw s.heap.size s.heap i0 i1 (Nat.le_refl _) tables_1 p e ha hc hk s m _ below hf ((Spec.applies_iff_loose hf).mp happ).1 ⟨rfl, State.Warmed39.refl s, rfl⟩ trivial
  refine ⟨n, _, h1, h2, h3, hpost _ _ _ _ _ _ ⟨Cond.after_iff.mpr rfl, Cond.after_iff.mpr (eq_i res_at (Term.int_eval (1)) rfl), trivial⟩ ⟨hq.1, hq.2.1, (hq.2.2.sift fun y hy => Or.inr (N y hy)).mono (by decide) (by decide)⟩⟩
theorem main_1_1 : Claimed_1_1 := comes_1 fun _ _ _ _ _ _ h hF => ⟨h.1, hF⟩
theorem main_1_2 : Claimed_1_2 := comes_1 fun _ _ _ _ _ _ h hF => ⟨h.2.1, hF⟩
end Jvm.Pilot.@@N@@
namespace Jvm.Pilot.@@N@@
open Jvm Jvm.ClassFile Sem Op Lib Jvm.Free Jvm.Stand Jvm.Pilot.@@N@@.Jvm.D
/-! MADE BY PROGRAM (witnessworld.py) out of the Statement's table words and the real class files: 9 classes; the members and pool entries that the words name. The judged class is class 1, her method 3. -/
namespace start1
open Jvm.ClassFile
def u (s : String) : CpInfo := .utf8 (stringToUtf16 s)
/-- a pool by its gaps: so many unusable entries, then the entry; so many at the end -/
def gap : Nat → List CpInfo → List CpInfo
  | 0, r => r
  | n + 1, r => .unusable :: gap n r
def poolList (es : List (Nat × CpInfo)) (last : Nat) : List CpInfo := es.foldr (fun e r => gap e.1 (e.2 :: r)) (gap last [])
def pool (es : List (Nat × CpInfo)) (last : Nat) : Array CpInfo := ⟨poolList es last⟩
def fileOf (pool : Array CpInfo) (this : Nat) (attrs : Array Attribute := #[]) (ms : Array MethodInfo := #[]) (fl : Nat := 33) (sup : Nat := 0) (ifs : Array Nat := #[]) (fds : Array FieldInfo := #[]) : ClassFile where
  minorVersion := 0
  majorVersion := 65
  constantPool := pool
  accessFlags := fl
  thisClass := this
  superClass := sup
  interfaces := ifs
  fields := fds
  methods := ms
  attributes := attrs
def plain (name : String) (sup : Option ClassId) : Class where
  name := name
  kind := .ordinary
  loader := none
  accessFlags := 33
  super := sup
  interfaces := #[]
  cf := none
  fields := #[]
  methods := #[]
  instanceTypes := #[]
  staticTypes := #[]
  resolved := #[]
  callSites := []
  init := .initialized
  statics := none
  mirror := none

def pool0 : Array CpInfo := pool [(5, u "<init>"), (0, u "()V"), (1, .class_ 10), (1, u "java/lang/Object")] 113

def k0m0 : Method := { name := "<init>", desc := "()V", sig := { parameters := [], returnType := none }, accessFlags := 1, code := none }
/-- java/lang/Object -/
def k0 : Class := { plain "java/lang/Object" none with
  accessFlags := 33
  interfaces := #[]
  cf := some (fileOf pool0 8 #[] #[{ accessFlags := 1, nameIndex := 5, descriptorIndex := 6, attributes := #[] }] 33 0 #[] #[])
  fields := #[]
  methods := #[k0m0]
  instanceTypes := #[]
  staticTypes := #[]
  resolved := Array.replicate 124 none
  statics := none }

def pool1 : Array CpInfo := pool [(2, .class_ 4), (1, u "java/lang/Object"), (0, u "<init>"), (0, u "()V"), (0, .integer 2147483647), (0, .methodref 9 10), (0, .class_ 11), (0, .nameAndType 12 13), (0, u "com/example/curtail/curtail/LiveDocumentsLivePinLaw"), (0, u "take"), (0, u "([II)[I"), (0, .methodref 15 16), (0, .class_ 17), (0, .nameAndType 18 19), (0, u "com/example/curtail/curtail/LiveDocuments"), (0, u "live"), (0, u "(I[I)[I"), (0, .methodref 9 21), (0, .nameAndType 22 23), (0, u "at"), (0, u "([I[II)Z"), (5, u "law"), (0, u "(II)Z")] 2

def k1m0 : Method := { name := "<init>", desc := "()V", sig := { parameters := [], returnType := none }, accessFlags := 1, code := none }
def k1c1 : Code := { maxStack := 4, maxLocals := 3, code := method_2_code, exceptionTable := #[], attributes := #[] }
def k1m1 : Method := { name := "take", desc := "([II)[I", sig := { parameters := [(.array .int), .int], returnType := some (.array .int) }, accessFlags := 10, code := some k1c1 }
def k1c2 : Code := { maxStack := 3, maxLocals := 3, code := method_3_code, exceptionTable := #[], attributes := #[] }
def k1m2 : Method := { name := "at", desc := "([I[II)Z", sig := { parameters := [(.array .int), (.array .int), .int], returnType := some .boolean }, accessFlags := 10, code := some k1c2 }
def k1c3 : Code := { maxStack := 3, maxLocals := 10, code := code, exceptionTable := #[], attributes := #[] }
def k1m3 : Method := { name := "law", desc := "(II)Z", sig := { parameters := [.int, .int], returnType := some .boolean }, accessFlags := 9, code := some k1c3 }
/-- com/example/curtail/curtail/LiveDocumentsLivePinLaw -/
def k1 : Class := { plain "com/example/curtail/curtail/LiveDocumentsLivePinLaw" (some 0) with
  accessFlags := 49
  interfaces := #[]
  cf := some (fileOf pool1 9 #[] #[{ accessFlags := 1, nameIndex := 5, descriptorIndex := 6, attributes := #[] }, { accessFlags := 10, nameIndex := 12, descriptorIndex := 13, attributes := #[] }, { accessFlags := 10, nameIndex := 22, descriptorIndex := 23, attributes := #[] }, { accessFlags := 9, nameIndex := 29, descriptorIndex := 30, attributes := #[] }] 49 2 #[] #[])
  fields := #[]
  methods := #[k1m0, k1m1, k1m2, k1m3]
  instanceTypes := #[]
  staticTypes := #[]
  resolved := Array.replicate 33 none
  statics := none }

def pool2 : Array CpInfo := pool [(2, .class_ 4), (1, u "java/lang/Object"), (6, u "segments"), (6, .class_ 20), (1, u "com/example/curtail/curtail/LiveDocuments"), (0, u "Ljava/util/List;"), (10, u "files"), (0, u "[Lcom/example/curtail/curtail/DocumentFile;"), (2, u "firsts"), (0, u "[I"), (2, u "deletedCounts"), (7, u "deletions"), (0, u "Ljava/util/concurrent/atomic/AtomicReferenceArray;"), (34, u "tokenCount"), (0, u "J"), (2, u "whole"), (0, u "Z"), (71, u "tokenCountChecked"), (15, u "live"), (0, u "(I[I)[I")] 109

def k2c0 : Code := { maxStack := 3, maxLocals := 6, code := prog_93_method_18_code, exceptionTable := #[], attributes := #[] }
def k2m0 : Method := { name := "live", desc := "(I[I)[I", sig := { parameters := [.int, (.array .int)], returnType := some (.array .int) }, accessFlags := 8, code := some k2c0 }
/-- com/example/curtail/curtail/LiveDocuments -/
def k2 : Class := { plain "com/example/curtail/curtail/LiveDocuments" (some 0) with
  accessFlags := 48
  interfaces := #[]
  cf := some (fileOf pool2 18 #[] #[{ accessFlags := 8, nameIndex := 177, descriptorIndex := 178, attributes := #[] }] 48 2 #[] #[{ accessFlags := 18, nameIndex := 11, descriptorIndex := 21, attributes := #[] }, { accessFlags := 18, nameIndex := 32, descriptorIndex := 33, attributes := #[] }, { accessFlags := 18, nameIndex := 36, descriptorIndex := 37, attributes := #[] }, { accessFlags := 18, nameIndex := 40, descriptorIndex := 37, attributes := #[] }, { accessFlags := 18, nameIndex := 48, descriptorIndex := 49, attributes := #[] }, { accessFlags := 18, nameIndex := 84, descriptorIndex := 85, attributes := #[] }, { accessFlags := 18, nameIndex := 88, descriptorIndex := 89, attributes := #[] }, { accessFlags := 66, nameIndex := 161, descriptorIndex := 89, attributes := #[] }])
  fields := #[{ name := "segments", type := (.object "java/util/List"), accessFlags := 18, slot := 0, constantValue := 0 }, { name := "files", type := (.array (.object "com/example/curtail/curtail/DocumentFile")), accessFlags := 18, slot := 1, constantValue := 0 }, { name := "firsts", type := (.array .int), accessFlags := 18, slot := 2, constantValue := 0 }, { name := "deletedCounts", type := (.array .int), accessFlags := 18, slot := 3, constantValue := 0 }, { name := "deletions", type := (.object "java/util/concurrent/atomic/AtomicReferenceArray"), accessFlags := 18, slot := 4, constantValue := 0 }, { name := "tokenCount", type := .long, accessFlags := 18, slot := 5, constantValue := 0 }, { name := "whole", type := .boolean, accessFlags := 18, slot := 6, constantValue := 0 }, { name := "tokenCountChecked", type := .boolean, accessFlags := 66, slot := 7, constantValue := 0 }]
  methods := #[k2m0]
  instanceTypes := #[(.object "java/util/List"), (.array (.object "com/example/curtail/curtail/DocumentFile")), (.array .int), (.array .int), (.object "java/util/concurrent/atomic/AtomicReferenceArray"), .long, .boolean, .boolean]
  staticTypes := #[]
  resolved := Array.replicate 288 none
  statics := none }

def pool3 : Array CpInfo := pool [(1, u "java/lang/Cloneable"), (0, .class_ 1), (0, u "java/lang/Object"), (0, .class_ 3)] 3

/-- java/lang/Cloneable -/
def k3 : Class := { plain "java/lang/Cloneable" (some 0) with
  accessFlags := 1537
  interfaces := #[]
  cf := some (fileOf pool3 2 #[] #[] 1537 4 #[] #[])
  fields := #[]
  methods := #[]
  instanceTypes := #[]
  staticTypes := #[]
  resolved := Array.replicate 8 none
  statics := none }

def pool4 : Array CpInfo := pool [(1, u "java/io/Serializable"), (0, .class_ 1), (0, u "java/lang/Object"), (0, .class_ 3)] 3

/-- java/io/Serializable -/
def k4 : Class := { plain "java/io/Serializable" (some 0) with
  accessFlags := 1537
  interfaces := #[]
  cf := some (fileOf pool4 2 #[] #[] 1537 4 #[] #[])
  fields := #[]
  methods := #[]
  instanceTypes := #[]
  staticTypes := #[]
  resolved := Array.replicate 8 none
  statics := none }

/-- the primitive byte -/
def k5 : Class := { plain "byte" none with kind := .primitive 'B', accessFlags := 0x411 }
/-- [B -/
def k6 : Class := { plain "[B" (some 0) with kind := .array 5 .byte, interfaces := #[3, 4], accessFlags := 1041 }

/-- the primitive int -/
def k7 : Class := { plain "int" none with kind := .primitive 'I', accessFlags := 0x411 }
/-- [I -/
def k8 : Class := { plain "[I" (some 0) with kind := .array 7 .int, interfaces := #[3, 4], accessFlags := 1041 }

def heap : Heap := #[]
def classes : Array Class := #[k0, k1, k2, k3, k4, k5, k6, k7, k8]
def interned : List (Array UInt16 × Addr) := []
def slotsUsed : Nat := 0
def theMethod : MethodId := ⟨1, 3⟩
def args0 : Array Value := #[.int 5, .int 7]
def aboutOver (below : List Frame) : State where
  vm := { classes := classes, interned := interned.toArray }
  heap := heap
  slotsUsed := slotsUsed
  threads := #[{ frames := .invoking theMethod args0 :: below }]
def below0 : List Frame := [.native { method := ⟨0, 0⟩, args := #[] }]
def about1 : State := aboutOver below0
def p0 : Program := .bare "" "" ""
def e0 : Env := launch0.env 0 0 0
theorem w_frames : about1.frames = Frame.invoking theMethod args0 :: below0 := rfl
set_option maxRecDepth 65536 in
theorem w_args : argsFit about1.vm theMethod args0 = true := by decide +kernel
set_option maxRecDepth 65536 in
theorem w_heap : heapFits about1 = true := by decide +kernel
set_option maxRecDepth 65536 in
theorem w_runnable : about1.curStatus? = some .runnable := by decide +kernel
set_option maxRecDepth 65536 in
theorem w_alone : about1.alone = true := by decide +kernel
set_option maxRecDepth 65536 in
theorem w_named : about1.methodNamed? x = some theMethod := by decide +kernel
set_option maxRecDepth 65536 in
theorem w_hears : about1.hears theMethod below0 = true := by decide +kernel
set_option maxRecDepth 65536 in
theorem w_ripe : about1.ripe theMethod args0 below0 = true := by decide +kernel
theorem w_running : about1.status = .running := rfl
set_option maxRecDepth 65536 in
theorem w_room : about1.hasRoom e0.platform room_1 = true :=
  launch0.hasRoom_least _ room_1 (by decide +kernel) (by decide +kernel) (by decide +kernel) (by decide +kernel) (by decide +kernel) (by decide +kernel)
theorem allAtoms_all (ts : List Jvm.Cond) (a : Array Jvm.Value) (st : Jvm.State) : (allAtoms ts).before a st = ts.all (fun c => c.before a st) := by
  induction ts with
  | nil => rfl
  | cons c t ih =>
    show (Jvm.Cond.and c (allAtoms t)).before a st = _
    rw [Jvm.Cond.before_and, ih, List.all_cons]
def words1 : List Jvm.Cond := Jvm.Cond.code x code maxLocals ret :: tables_1
/-- a 'code' word, met by the world's own term for the bytes: nothing is compared byte by byte -/
theorem code_word {y : MethodName} {bytes : ByteArray} {mx : Nat} {rt : Option FieldType} {a : Array Value} {s : State} {m : MethodId} {meth : Method} {c : Code} (h1 : s.methodNamed? y = some m) (h2 : s.vm.method? m = some meth) (h3 : meth.code = some c) (h4 : c.code = bytes)
    (h5 : (c.maxLocals == mx && c.exceptionTable.isEmpty && decide (c.maxStack ≤ mostOperands) && decide (meth.sig.returnType = rt) && !meth.locks && decide (parseMethodDescriptor y.desc = some meth.sig)) = true) : (Jvm.Cond.code y bytes mx rt).before a s = true := by
  simp only [Bool.and_eq_true, beq_iff_eq, Bool.not_eq_true', decide_eq_true_eq] at h5
  obtain ⟨⟨⟨⟨⟨g1, g2⟩, g3⟩, g4⟩, g5⟩, g6⟩ := h5
  simp [Cond.before, Cond.holds, Cond.value, h1, h2, h3, h4, g1, g2, g3, g4, g5, g6]
def isCode : Jvm.Cond → Bool
  | .code _ _ _ _ => true
  | _ => false
theorem all_split {L : List Jvm.Cond} {P : Jvm.Cond → Bool} (h1 : L.all (fun c => isCode c || P c) = true) (h2 : ∀ c ∈ L.filter isCode, P c = true) : L.all P = true := by
  refine List.all_eq_true.mpr fun c hc => ?_
  have h := List.all_eq_true.mp h1 c hc
  rcases Bool.eq_false_or_eq_true (isCode c) with hi | hi
  · exact h2 c (List.mem_filter.mpr ⟨hc, hi⟩)
  · simpa [hi] using h
set_option maxRecDepth 65536 in
theorem w_c0 : (Jvm.Cond.code x code maxLocals ret).before args0 about1 = true := code_word (m := ⟨1, 3⟩) (meth := k1m3) (c := k1c3) (by decide +kernel) rfl rfl rfl (by decide +kernel)
set_option maxRecDepth 65536 in
theorem w_c1 : (Jvm.Cond.code ({ cls := "com/example/curtail/curtail/LiveDocumentsLivePinLaw", name := "take", desc := "([II)[I" } : Jvm.MethodName) method_2_code (3 : Nat) (Option.some (Jvm.ClassFile.FieldType.array Jvm.ClassFile.FieldType.int))).before args0 about1 = true := code_word (m := ⟨1, 1⟩) (meth := k1m1) (c := k1c1) (by decide +kernel) rfl rfl rfl (by decide +kernel)
set_option maxRecDepth 65536 in
theorem w_c2 : (Jvm.Cond.code ({ cls := "com/example/curtail/curtail/LiveDocuments", name := "live", desc := "(I[I)[I" } : Jvm.MethodName) prog_93_method_18_code (6 : Nat) (Option.some (Jvm.ClassFile.FieldType.array Jvm.ClassFile.FieldType.int))).before args0 about1 = true := code_word (m := ⟨2, 0⟩) (meth := k2m0) (c := k2c0) (by decide +kernel) rfl rfl rfl (by decide +kernel)
set_option maxRecDepth 65536 in
theorem w_c3 : (Jvm.Cond.code ({ cls := "com/example/curtail/curtail/LiveDocumentsLivePinLaw", name := "at", desc := "([I[II)Z" } : Jvm.MethodName) method_3_code (3 : Nat) (Option.some Jvm.ClassFile.FieldType.boolean)).before args0 about1 = true := code_word (m := ⟨1, 2⟩) (meth := k1m2) (c := k1c2) (by decide +kernel) rfl rfl rfl (by decide +kernel)
def codes1 : List Jvm.Cond := [Jvm.Cond.code x code maxLocals ret, Jvm.Cond.code ({ cls := "com/example/curtail/curtail/LiveDocumentsLivePinLaw", name := "take", desc := "([II)[I" } : Jvm.MethodName) method_2_code (3 : Nat) (Option.some (Jvm.ClassFile.FieldType.array Jvm.ClassFile.FieldType.int)), Jvm.Cond.code ({ cls := "com/example/curtail/curtail/LiveDocuments", name := "live", desc := "(I[I)[I" } : Jvm.MethodName) prog_93_method_18_code (6 : Nat) (Option.some (Jvm.ClassFile.FieldType.array Jvm.ClassFile.FieldType.int)), Jvm.Cond.code ({ cls := "com/example/curtail/curtail/LiveDocumentsLivePinLaw", name := "at", desc := "([I[II)Z" } : Jvm.MethodName) method_3_code (3 : Nat) (Option.some Jvm.ClassFile.FieldType.boolean)]
set_option maxRecDepth 65536 in
theorem codes_eq : words1.filter isCode = codes1 := rfl
theorem w_codes : ∀ c ∈ words1.filter isCode, c.before args0 about1 = true := by
  rw [codes_eq]
  intro c hc
  simp only [codes1, List.mem_cons, List.not_mem_nil, or_false] at hc
  rcases hc with rfl | rfl | rfl | rfl
  · exact w_c0
  · exact w_c1
  · exact w_c2
  · exact w_c3
set_option maxRecDepth 65536 in
theorem w_t1 : words1.all (fun c => isCode c || c.before args0 about1) = true := by decide +kernel
theorem w_tables : (allAtoms (Jvm.Cond.code x code maxLocals ret :: tables_1)).before args0 about1 = true := by
  rw [allAtoms_all]
  show words1.all (fun c => c.before args0 about1) = true
  refine all_split ?_ w_codes
  rw [w_t1]
set_option maxRecDepth 65536 in
theorem w_case : (Jvm.Cond.and given_1 narrow_1).before args0 about1 = true := by decide +kernel
theorem w_applies : (headSpec (Jvm.Cond.code x code maxLocals ret :: tables_1) room_1).applies x e0.platform about1 = true :=
  (Spec.applies_iff w_frames).mpr ⟨w_running, w_runnable, w_alone, w_named, w_hears, w_ripe, w_room, w_tables⟩
theorem atStart : AtStart classFile x code maxLocals ret World_1 tables_1 room_1 Calls_1 rest_1 Pre_1 launch0 p0 e0 about1 theMethod args0 below0 :=
  ⟨lists_1, trivial, launch0.admits_env _ _ _, launch0.least_env, fairChoices_fair.cas, fairChoices_fair.clock, w_frames, w_args, w_heap, w_applies, trivial, trivial, w_case⟩
end start1
theorem witness_1 : WitnessClaimed_1 := ⟨start1.p0, start1.e0, start1.about1, start1.theMethod, start1.args0, start1.below0, start1.atStart⟩
end Jvm.Pilot.@@N@@
